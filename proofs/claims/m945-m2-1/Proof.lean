import JvmDerived
import JvmDerived.Pilot.@@N@@Statement
import JvmDerived.Pilot.@@N@@Code
set_option linter.unusedVariables false
set_option linter.unusedSimpArgs false

namespace Jvm.RoadKit
open Sem ClassFile Op Lib Jvm.Stand Jvm.Free Jvm.LawKit
section New
variable {p : Program} {l : Launch} {e : Env} {R : Room} {s : State} {m : MethodId} {args : Array Value} {below : List Frame} {meth : Method} {c : Code} {T : State} {locs : List Loc} {cells slots : Nat}
theorem retI (X : Stand p l e R s m args below meth c T locs cells slots) (hx : p.tables.exec = Jvm.exec) {pc : Nat} {Ls : Array Slot} {z : Int32} {rest : List Value} (hret : meth.sig.returnType = some .int) (hd : decode c.code pc = .ok (.ireturn, 1)) {fs : List Frame}
    (hl : ∀ (f : JFrame) (acts : List Action), f.method = m → f.locked = none → f.entered = [] → (doReturn e (T.setTop f) acts (some (.int z))).1 = T.setFrames fs) : Steps p.tables e below (T.setTop (mkF m pc Ls (.int z :: rest))) (T.setFrames fs) := by
  have hm' : T.vm.method? m = some meth := X.method'
  have hn : narrow .int (.int z) = .int z := rfl
  show Steps p.tables e below (T.setTop { method := m, pc := pc, locals := Ls, stack := _ :: rest, locked := none }) _
  jvm_step X.here [X.here.top, hx, hd, hm', hret, hn]
  first | (intro acts; rw [hl _ acts rfl rfl rfl]) | rw [hl _ _ rfl rfl rfl]
  exact Steps.refl _
end New
end Jvm.RoadKit
namespace Jvm.Pilot.@@N@@
open Jvm Jvm.ClassFile Sem Op Lib Jvm.Free Jvm.Stand Jvm.LawKit Jvm.RoadKit Bundle Jvm.Pilot.@@N@@.Jvm.D
abbrev y_0 : MethodName := ⟨"com/example/glottis/glottis/audio/Audio", "put", "([BIS)V"⟩
abbrev y_1 : MethodName := ⟨"com/example/glottis/glottis/audio/AudioPutPinLaw", "kept", "([BIIJ)Z"⟩
abbrev own_zl (n : Nat) : List Value := List.replicate n (.long (0 : Int64))
abbrev own_zi (n : Nat) : List Value := List.replicate n (.int (0 : Int32))
abbrev own_zr (n : Nat) : List Value := List.replicate n .null
abbrev vi (x : Int32) : Slot := .val (.int x)
abbrev vj (x : Int64) : Slot := .val (.long x)
abbrev vr (x : Addr) : Slot := .val (.ref x)
section Steps
variable {p : Program} {l : Launch} {e : Env} {R : Room} {s : State} {m : MethodId} {args : Array Value} {below : List Frame} {meth : Method} {c : Code} {T : State} {locs : List Loc} {cells slots : Nat} {pc pc' : Nat} {Ls L' : Array Slot} {S : List Value} {t : State} {Z : State} {h : Heap} {a : Addr} {cl : Cell}
abbrev Go (p : Program) (e : Env) (below : List Frame) (T0 : State) (g0 : JFrame) (T : State) (g : JFrame) : Prop := ∀ t, Steps p.tables e below (T.setTop g) t → Steps p.tables e below (T0.setTop g0) t
theorem own_w {Z : State} {a0 : Array Value} (hw : ∀ d ∈ tables_1, d.before a0 Z = true) (k : Nat) {d : Jvm.Cond} (h : tables_1[k]? = some d) : d.before a0 Z = true := hw _ (List.mem_of_getElem? h)
theorem o_iloadN (X : Stand p l e R s m args below meth c T locs cells slots) (hx : p.tables.exec = Jvm.exec) {i : Fin 4} {v : Int32} (hd : decode c.code pc = .ok (.iload_n i, 1)) (hl : Ls[i.val]? = some (.val (.int v))) (k : Steps p.tables e below (T.setTop (mkF m (pc + 1) Ls (.int v :: S))) t) : Steps p.tables e below (T.setTop (mkF m pc Ls (S))) t := XS.iloadN X.here hx rfl hd hl k
theorem o_iload (X : Stand p l e R s m args below meth c T locs cells slots) (hx : p.tables.exec = Jvm.exec) {i : Nat} {v : Int32} (hd : decode c.code pc = .ok (.iload i, 2)) (hl : Ls[i]? = some (.val (.int v))) (k : Steps p.tables e below (T.setTop (mkF m (pc + 2) Ls (.int v :: S))) t) : Steps p.tables e below (T.setTop (mkF m pc Ls (S))) t := XS.iload X.here hx rfl hd hl k
theorem o_lloadN (X : Stand p l e R s m args below meth c T locs cells slots) (hx : p.tables.exec = Jvm.exec) {i : Fin 4} {v : Int64} (hd : decode c.code pc = .ok (.lload_n i, 1)) (hl : Ls[i.val]? = some (.val (.long v))) (k : Steps p.tables e below (T.setTop (mkF m (pc + 1) Ls (.long v :: S))) t) : Steps p.tables e below (T.setTop (mkF m pc Ls (S))) t := XS.lloadN X.here hx rfl hd hl k
theorem o_aloadN (X : Stand p l e R s m args below meth c T locs cells slots) (hx : p.tables.exec = Jvm.exec) {i : Fin 4} {v : Value} (hd : decode c.code pc = .ok (.aload_n i, 1)) (hl : Ls[i.val]? = some (.val v)) (hv : v.isRef = true) (k : Steps p.tables e below (T.setTop (mkF m (pc + 1) Ls (v :: S))) t) : Steps p.tables e below (T.setTop (mkF m pc Ls (S))) t := XS.aloadN X.here hx rfl hd hl hv k
theorem o_aload (X : Stand p l e R s m args below meth c T locs cells slots) (hx : p.tables.exec = Jvm.exec) {i : Nat} {v : Value} (hd : decode c.code pc = .ok (.aload i, 2)) (hl : Ls[i]? = some (.val v)) (hv : v.isRef = true) (k : Steps p.tables e below (T.setTop (mkF m (pc + 2) Ls (v :: S))) t) : Steps p.tables e below (T.setTop (mkF m pc Ls (S))) t := XS.aload X.here hx rfl hd hl hv k
theorem o_istore (X : Stand p l e R s m args below meth c T locs cells slots) (hx : p.tables.exec = Jvm.exec) {i : Nat} {v : Int32} (hd : decode c.code pc = .ok (.istore i, 2)) (hl : storeLocals Ls i (.int v) = some L') (k : Steps p.tables e below (T.setTop (mkF m (pc + 2) L' (S))) t) : Steps p.tables e below (T.setTop (mkF m pc Ls (.int v :: S))) t := XS.istore X.here hx rfl hd rfl hl k
theorem o_astore (X : Stand p l e R s m args below meth c T locs cells slots) (hx : p.tables.exec = Jvm.exec) {i : Nat} {v : Value} (hd : decode c.code pc = .ok (.astore i, 2)) (hv : v.isRef = true) (hl : storeLocals Ls i v = some L') (k : Steps p.tables e below (T.setTop (mkF m (pc + 2) L' (S))) t) : Steps p.tables e below (T.setTop (mkF m pc Ls (v :: S))) t := XS.astore X.here hx rfl hd rfl hv hl k
theorem o_iconst (X : Stand p l e R s m args below meth c T locs cells slots) (hx : p.tables.exec = Jvm.exec) {i : Int} {v : Int32} (hd : decode c.code pc = .ok (.iconst i, 1)) (hv : v = Int32.ofInt i) (k : Steps p.tables e below (T.setTop (mkF m (pc + 1) Ls (.int v :: S))) t) : Steps p.tables e below (T.setTop (mkF m pc Ls (S))) t := XS.iconst X.here hx rfl hd (hv ▸ k)
theorem o_bipush (X : Stand p l e R s m args below meth c T locs cells slots) (hx : p.tables.exec = Jvm.exec) {i : Int} {v : Int32} (hd : decode c.code pc = .ok (.bipush i, 2)) (hv : v = (Int8.ofInt i).toInt32) (k : Steps p.tables e below (T.setTop (mkF m (pc + 2) Ls (.int v :: S))) t) : Steps p.tables e below (T.setTop (mkF m pc Ls (S))) t := XS.bipush X.here hx rfl hd (hv ▸ k)
theorem o_sipush (X : Stand p l e R s m args below meth c T locs cells slots) (hx : p.tables.exec = Jvm.exec) {i : Int} {v : Int32} (hd : decode c.code pc = .ok (.sipush i, 3)) (hv : v = (Int16.ofInt i).toInt32) (k : Steps p.tables e below (T.setTop (mkF m (pc + 3) Ls (.int v :: S))) t) : Steps p.tables e below (T.setTop (mkF m pc Ls (S))) t := XS.sipush X.here hx rfl hd (hv ▸ k)
theorem o_iadd (X : Stand p l e R s m args below meth c T locs cells slots) (hx : p.tables.exec = Jvm.exec) {x y : Int32} (hd : decode c.code pc = .ok (.iadd, 1))  (k : Steps p.tables e below (T.setTop (mkF m (pc + 1) Ls (.int (x + y) :: S))) t) : Steps p.tables e below (T.setTop (mkF m pc Ls (.int y :: .int x :: S))) t := XS.iadd X.here hx rfl hd rfl k
theorem o_iaddE (X : Stand p l e R s m args below meth c T locs cells slots) (hx : p.tables.exec = Jvm.exec) {x y v : Int32} (hd : decode c.code pc = .ok (.iadd, 1)) (hv : v = x + y) (k : Steps p.tables e below (T.setTop (mkF m (pc + 1) Ls (.int v :: S))) t) : Steps p.tables e below (T.setTop (mkF m pc Ls (.int y :: .int x :: S))) t := XS.iadd X.here hx rfl hd rfl (hv ▸ k)
theorem o_imul (X : Stand p l e R s m args below meth c T locs cells slots) (hx : p.tables.exec = Jvm.exec) {x y : Int32} (hd : decode c.code pc = .ok (.imul, 1))  (k : Steps p.tables e below (T.setTop (mkF m (pc + 1) Ls (.int (x * y) :: S))) t) : Steps p.tables e below (T.setTop (mkF m pc Ls (.int y :: .int x :: S))) t := XS.imul X.here hx rfl hd rfl k
theorem o_imulE (X : Stand p l e R s m args below meth c T locs cells slots) (hx : p.tables.exec = Jvm.exec) {x y v : Int32} (hd : decode c.code pc = .ok (.imul, 1)) (hv : v = x * y) (k : Steps p.tables e below (T.setTop (mkF m (pc + 1) Ls (.int v :: S))) t) : Steps p.tables e below (T.setTop (mkF m pc Ls (.int y :: .int x :: S))) t := XS.imul X.here hx rfl hd rfl (hv ▸ k)
theorem o_iand (X : Stand p l e R s m args below meth c T locs cells slots) (hx : p.tables.exec = Jvm.exec) {x y : Int32} (hd : decode c.code pc = .ok (.iand, 1))  (k : Steps p.tables e below (T.setTop (mkF m (pc + 1) Ls (.int (x &&& y) :: S))) t) : Steps p.tables e below (T.setTop (mkF m pc Ls (.int y :: .int x :: S))) t := XS.iand X.here hx rfl hd rfl k
theorem o_l2i (X : Stand p l e R s m args below meth c T locs cells slots) (hx : p.tables.exec = Jvm.exec) {x : Int64} (hd : decode c.code pc = .ok (.l2i, 1))  (k : Steps p.tables e below (T.setTop (mkF m (pc + 1) Ls (.int (x.toInt32) :: S))) t) : Steps p.tables e below (T.setTop (mkF m pc Ls (.long x :: S))) t := XS.l2i X.here hx rfl hd rfl k
theorem o_i2b (X : Stand p l e R s m args below meth c T locs cells slots) (hx : p.tables.exec = Jvm.exec) {x : Int32} (hd : decode c.code pc = .ok (.i2b, 1))  (k : Steps p.tables e below (T.setTop (mkF m (pc + 1) Ls (.int (x.toInt8.toInt32) :: S))) t) : Steps p.tables e below (T.setTop (mkF m pc Ls (.int x :: S))) t := XS.i2b X.here hx rfl hd rfl k
theorem o_i2s (X : Stand p l e R s m args below meth c T locs cells slots) (hx : p.tables.exec = Jvm.exec) {x : Int32} (hd : decode c.code pc = .ok (.i2s, 1))  (k : Steps p.tables e below (T.setTop (mkF m (pc + 1) Ls (.int (x.toInt16.toInt32) :: S))) t) : Steps p.tables e below (T.setTop (mkF m pc Ls (.int x :: S))) t := XS.i2s X.here hx rfl hd rfl k
theorem o_ishr (X : Stand p l e R s m args below meth c T locs cells slots) (hx : p.tables.exec = Jvm.exec) {x : Int32} {y : Int32} (hd : decode c.code pc = .ok (.ishr, 1))  (k : Steps p.tables e below (T.setTop (mkF m (pc + 1) Ls (.int (x >>> (y &&& 31)) :: S))) t) : Steps p.tables e below (T.setTop (mkF m pc Ls (.int y :: .int x :: S))) t := XS.ishr X.here hx rfl hd rfl k
theorem o_ishrE (X : Stand p l e R s m args below meth c T locs cells slots) (hx : p.tables.exec = Jvm.exec) {x v : Int32} {y : Int32} (hd : decode c.code pc = .ok (.ishr, 1)) (hv : v = (x >>> (y &&& 31))) (k : Steps p.tables e below (T.setTop (mkF m (pc + 1) Ls (.int v :: S))) t) : Steps p.tables e below (T.setTop (mkF m pc Ls (.int y :: .int x :: S))) t := XS.ishr X.here hx rfl hd rfl (hv ▸ k)
theorem o_lshr (X : Stand p l e R s m args below meth c T locs cells slots) (hx : p.tables.exec = Jvm.exec) {x : Int64} {y : Int32} (hd : decode c.code pc = .ok (.lshr, 1))  (k : Steps p.tables e below (T.setTop (mkF m (pc + 1) Ls (.long (x >>> (y &&& 0x3f).toInt64) :: S))) t) : Steps p.tables e below (T.setTop (mkF m pc Ls (.int y :: .long x :: S))) t := XS.lshr X.here hx rfl hd rfl k
theorem o_goto (X : Stand p l e R s m args below meth c T locs cells slots) (hx : p.tables.exec = Jvm.exec) {o : Int} (hd : decode c.code pc = .ok (.goto o, 3)) (hp : ((pc : Int) + o).toNat = pc') (ho : 0 ≤ (pc : Int) + o) (k : Steps p.tables e below (T.setTop (mkF m (pc') Ls (S))) t) : Steps p.tables e below (T.setTop (mkF m pc Ls (S))) t := XS.goto X.here hx rfl rfl hd ho hp k
theorem o_ifNo (X : Stand p l e R s m args below meth c T locs cells slots) (hx : p.tables.exec = Jvm.exec) {cd : ClassFile.Cond} {x : Int32} {o : Int} (hd : decode c.code pc = .ok (.ifCond cd o, 3)) (hc : ifCond.holds cd x = false) (k : Steps p.tables e below (T.setTop (mkF m (pc + 3) Ls (S))) t) : Steps p.tables e below (T.setTop (mkF m pc Ls (.int x :: S))) t := XS.ifNo X.here hx rfl hd rfl hc k
theorem o_icmpYes (X : Stand p l e R s m args below meth c T locs cells slots) (hx : p.tables.exec = Jvm.exec) {cd : ClassFile.Cond} {x y : Int32} {o : Int} (hd : decode c.code pc = .ok (.if_icmp cd o, 3)) (hp : ((pc : Int) + o).toNat = pc') (ho : 0 ≤ (pc : Int) + o) (hc : if_icmp.holds cd x y = true) (k : Steps p.tables e below (T.setTop (mkF m (pc') Ls (S))) t) : Steps p.tables e below (T.setTop (mkF m pc Ls (.int y :: .int x :: S))) t := XS.icmpYes X.here hx rfl rfl hd rfl hc ho hp k
theorem o_icmpNo (X : Stand p l e R s m args below meth c T locs cells slots) (hx : p.tables.exec = Jvm.exec) {cd : ClassFile.Cond} {x y : Int32} {o : Int} (hd : decode c.code pc = .ok (.if_icmp cd o, 3)) (hc : if_icmp.holds cd x y = false) (k : Steps p.tables e below (T.setTop (mkF m (pc + 3) Ls (S))) t) : Steps p.tables e below (T.setTop (mkF m pc Ls (.int y :: .int x :: S))) t := XS.icmpNo X.here hx rfl hd rfl hc k
theorem o_baload (X : Stand p l e R s m args below meth c T locs cells slots) (hx : p.tables.exec = Jvm.exec) (hZ : Z.Warmed39 s.vm) (eT : T.heap = h) {j : Int32} {v : Int32} (A : Arr Z h a cl .byte) (hin : ¬ (j < 0 ∨ cl.slots.size ≤ j.toNatClampNeg)) (hat : cl.slots[j.toNatClampNeg]? = some (.int v)) (hd : decode c.code pc = .ok (.baload, 1))  (k : Steps p.tables e below (T.setTop (mkF m (pc + 1) Ls (.int v :: S))) t) : Steps p.tables e below (T.setTop (mkF m pc Ls (.int j :: .ref a :: S))) t := X.baloadBytes hx (j := j) (v := .int v) (by rw [eT]; exact A.1) (State.isArrayOf_alike hZ.alike A.2.1) A.2.2 hin hat (g := mkF m pc Ls (.int j :: .ref a :: S)) rfl rfl hd _ k
end Steps
theorem own_nar_byte (x : Int32) : nar .byte x.toInt8.toInt32 = x.toInt8.toInt32 := by
  show x.toInt8.toInt32.toInt8.toInt32 = _
  rw [Int8.toInt8_toInt32]
theorem own_nar_short (x : Int32) : nar .short x.toInt16.toInt32 = x.toInt16.toInt32 := by
  show x.toInt16.toInt32.toInt16.toInt32 = _
  rw [Int16.toInt16_toInt32]
theorem own_nar_char (x : Int32) : nar .char x.toUInt32.toUInt16.toUInt32.toInt32 = x.toUInt32.toUInt16.toUInt32.toInt32 := by
  have h := c_i2c x
  have h2 := c_i2c (x.toUInt32.toUInt16.toUInt32.toInt32)
  show (x.toUInt32.toUInt16.toUInt32.toInt32).toUInt32.toUInt16.toUInt32.toInt32 = _
  apply Int32.toInt_inj.mp
  omega

theorem own_4 (p : Int32) : (p &&& (3 : Int32)) = (0 : Int32) ∨ (p &&& (3 : Int32)) = (1 : Int32) ∨ (p &&& (3 : Int32)) = (2 : Int32) ∨ (p &&& (3 : Int32)) = (3 : Int32) := by
  have h : (p &&& (3 : Int32)).toInt = p.toInt % 4 := c_mask p 3 2 (by decide) (by decide)
  have h2 : ((p &&& (3 : Int32))).toInt = 0 ∨ ((p &&& (3 : Int32))).toInt = 1 ∨ ((p &&& (3 : Int32))).toInt = 2 ∨ ((p &&& (3 : Int32))).toInt = 3 := by omega
  rcases h2 with h2 | h2 | h2 | h2
  · exact Or.inl (Int32.toInt_inj.mp h2)
  · exact Or.inr (Or.inl (Int32.toInt_inj.mp h2))
  · exact Or.inr (Or.inr (Or.inl (Int32.toInt_inj.mp h2)))
  · exact Or.inr (Or.inr (Or.inr (Int32.toInt_inj.mp h2)))

theorem own_sh0 (q : Int64) : (q.toInt32.toInt8.toInt32) = ((q >>> ((0 : Int32) &&& 0x3f).toInt64).toInt32.toInt8.toInt32) := by
  have e : (q >>> ((0 : Int32) &&& 0x3f).toInt64) = q := by
    apply Int64.toInt_inj.mp
    have h : (q >>> ((0 : Int32) &&& 0x3f).toInt64).toInt = q.toInt / 1 := c_lshr q 0 0 (by decide)
    omega
  rw [e]
theorem own_law (p : Int32) : (((((p.toInt16.toInt32) >>> ((8 : Int32) &&& 31)).toInt8.toInt32) * (256 : Int32)) + (((p.toInt16.toInt32).toInt8.toInt32) &&& (255 : Int32))) = (p.toInt16.toInt32) := by
  have a0 := c_i2s p
  generalize p.toInt16.toInt32 = v at *
  have a2 : ((v.toInt8.toInt32) &&& (255 : Int32)).toInt = (v.toInt8.toInt32).toInt % 256 := c_mask _ 255 8 (by decide) (by decide)
  have a3 := c_i2b v
  have a4 : (v >>> ((8 : Int32) &&& 31)).toInt = v.toInt / 256 := c_ishr v 8 8 (by decide)
  have a5 := c_i2b (v >>> ((8 : Int32) &&& 31))
  generalize ((v >>> ((8 : Int32) &&& 31)).toInt8.toInt32) = H at *
  generalize (v.toInt8.toInt32) &&& (255 : Int32) = L at *
  have b1 := c_imul H (256 : Int32)
  rw [show (256 : Int32).toInt = 256 from rfl] at b1
  have b2 := c_iadd (H * (256 : Int32)) L
  have := (H * (256 : Int32)).toInt_lt; have := (H * (256 : Int32)).le_toInt; have := (H * (256 : Int32) + L).toInt_lt; have := (H * (256 : Int32) + L).le_toInt
  have c1 : (H * (256 : Int32)).toInt = H.toInt * 256 := by omega
  apply Int32.toInt_inj.mp
  omega

theorem d1_0 : decode prog_1_method_6_code 0 = .ok (.aload_n 0, 1) := by decide +kernel
theorem d1_1 : decode prog_1_method_6_code 1 = .ok (.iconst 2, 1) := by decide +kernel
theorem d1_2 : decode prog_1_method_6_code 2 = .ok (.iload_n 1, 1) := by decide +kernel
theorem d1_3 : decode prog_1_method_6_code 3 = .ok (.imul, 1) := by decide +kernel
theorem d1_4 : decode prog_1_method_6_code 4 = .ok (.iload_n 2, 1) := by decide +kernel
theorem d1_5 : decode prog_1_method_6_code 5 = .ok (.i2b, 1) := by decide +kernel
theorem d1_6 : decode prog_1_method_6_code 6 = .ok (.bastore, 1) := by decide +kernel
theorem d1_7 : decode prog_1_method_6_code 7 = .ok (.aload_n 0, 1) := by decide +kernel
theorem d1_8 : decode prog_1_method_6_code 8 = .ok (.iconst 2, 1) := by decide +kernel
theorem d1_9 : decode prog_1_method_6_code 9 = .ok (.iload_n 1, 1) := by decide +kernel
theorem d1_10 : decode prog_1_method_6_code 10 = .ok (.imul, 1) := by decide +kernel
theorem d1_11 : decode prog_1_method_6_code 11 = .ok (.iconst 1, 1) := by decide +kernel
theorem d1_12 : decode prog_1_method_6_code 12 = .ok (.iadd, 1) := by decide +kernel
theorem d1_13 : decode prog_1_method_6_code 13 = .ok (.iload_n 2, 1) := by decide +kernel
theorem d1_14 : decode prog_1_method_6_code 14 = .ok (.bipush 8, 2) := by decide +kernel
theorem d1_16 : decode prog_1_method_6_code 16 = .ok (.ishr, 1) := by decide +kernel
theorem d1_17 : decode prog_1_method_6_code 17 = .ok (.i2b, 1) := by decide +kernel
theorem d1_18 : decode prog_1_method_6_code 18 = .ok (.bastore, 1) := by decide +kernel
theorem d1_19 : decode prog_1_method_6_code 19 = .ok (.return_, 1) := by decide +kernel
theorem pn_1_0 : plainName "com/example/glottis/glottis/audio/Audio" = true := by first | (simp [plainName, overriddenIn]; done) | decide +kernel
theorem ef_1_0 (m : MethodId) (x0 : Addr) (x2 : Int32) : entryFrame m #[(.ref x0), (.int (0 : Int32)), (.int x2)] 3 = mkF m 0 #[vr x0, vi (0 : Int32), vi x2] [] := by first | (simp [entryFrame, mkF, argsToLocals, Value.category]; done) | rfl
def Q1_0 (Z : State) (a1 : Addr) (p3 : Int32) (k1 : ClassId) (w0 : Int32) (w1 : Int32) (w2 : Int32) (w3 : Int32) (w4 : Int32) (w5 : Int32) (w6 : Int32) (w7 : Int32) (h0 : Heap) (n0 : Nat) (v : Option Value) (h : Heap) (L : List Loc) : Prop := v = none ∧ Fr n0 L ∧ Keep h0 h [a1] ∧ Arv Z h a1 k1 .byte (8 : Int32) [(.int (p3.toInt8.toInt32)), (.int ((p3 >>> ((8 : Int32) &&& 31)).toInt8.toInt32)), (.int w2), (.int w3), (.int w4), (.int w5), (.int w6), (.int w7)] (.int (0 : Int32))
set_option maxRecDepth 65536 in
set_option maxHeartbeats 40000000 in
theorem rm1_0 (l : Launch) (Z : State) (a0 : Array Value) (hw : ∀ d ∈ tables_1, d.before a0 Z = true) (ws : List Jvm.Cond) (a1 : Addr) (p3 : Int32) (k1 : ClassId) (w0 : Int32) (w1 : Int32) (w2 : Int32) (w3 : Int32) (w4 : Int32) (w5 : Int32) (w6 : Int32) (w7 : Int32) (h0 : Heap) (n0 : Nat) (Z0 : n0 ≤ h0.size) (V0 : Arv Z h0 a1 k1 .byte (8 : Int32) [(.int w0), (.int w1), (.int w2), (.int w3), (.int w4), (.int w5), (.int w6), (.int w7)] (.int (0 : Int32))) (g_a1 : n0 ≤ a1) :
    MetFree l y_0 (head1 (Jvm.Cond.code y_0 prog_1_method_6_code 3 none :: ws) ({ frames := 0, cells := 0, slots := 0, locals := 0 } : Room)) (fun a U => a = #[(.ref a1), (.int (0 : Int32)), (.int p3)] ∧ Z.Warmed39 U.vm ∧ U.heap = h0) (fun _ _ _ _ _ => True) (fun _ U o U' => ∃ v L, o = .returned v ∧ Q1_0 Z a1 p3 k1 w0 w1 w2 w3 w4 w5 w6 w7 h0 n0 v U'.heap L ∧ FrameEnd U o U' L ({ frames := 0, cells := 0, slots := 0, locals := 0 } : Room).cells ({ frames := 0, cells := 0, slots := 0, locals := 0 } : Room).slots) := by
  refine MetFree.of_bodySF (plainFor_of_name pn_1_0) hisR ?_
  intro p e s m args below meth c s₁ Bd hml0 hP hK
  obtain ⟨rfl, hZ, hh⟩ := hP
  have hx := Bd.exec
  have hby := Bd.bytes
  have hml : c.maxLocals = 3 := hml0
  have hown : s.vm.findClass "com/example/glottis/glottis/audio/Audio" = some m.cls := findClass_of_methodNamed Bd.named
  have hnm := (name_of_methodNamed Bd.named Bd.method).1
  have X0 : Stand p l e ({ frames := 0, cells := 0, slots := 0, locals := 0 } : Room) s m #[(.ref a1), (.int (0 : Int32)), (.int p3)] below meth c s₁ [] 0 0 := Stand.of_body Bd
  have e0 : s₁.heap = h0 := by rw [← hh, Bd.state]; rfl
  have N0 := Fr.nil n0
  have K0 : Keep h0 h0 [a1] := Keep.refl h0 [a1]
  obtain ⟨F0, hF0⟩ : ∃ F : JFrame, F = entryFrame m #[(.ref a1), (.int (0 : Int32)), (.int p3)] 3 := ⟨_, rfl⟩
  have pre0 : ∀ t, Steps p.tables e below (s₁.setTop F0) t → Steps p.tables e below (s₁.setTop (entryFrame m #[(.ref a1), (.int (0 : Int32)), (.int p3)] 3)) t := fun t k => hF0 ▸ k
  have go0 : Go p e below s₁ F0 s₁ (mkF m 0 #[vr a1, vi (0 : Int32), vi p3] []) := fun t k => castTop (hF0.trans (ef_1_0 m a1 p3)) k
  have go1 : Go p e below s₁ F0 s₁ (mkF m 6 #[vr a1, vi (0 : Int32), vi p3] [(.int (p3.toInt8.toInt32)), (.int (0 : Int32)), (.ref a1)]) := by
    intro t kt
    refine go0 t ?_
    refine o_aloadN X0 hx (hb hby d1_0) rfl rfl ?_
    refine o_iconst X0 hx (hb hby d1_1) (v := 2) rfl ?_
    refine o_iloadN X0 hx (hb hby d1_2) rfl ?_
    refine o_imulE X0 hx (hb hby d1_3) (v := 0) rfl ?_
    refine o_iloadN X0 hx (hb hby d1_4) rfl ?_
    refine o_i2b X0 hx (hb hby d1_5) ?_
    exact kt
  obtain ⟨cl2, Ar2, q2, Sz2, Nn2, Hs2, G2⟩ := id V0
  have hin2 : ¬ ((0 : Int32) < 0 ∨ cl2.slots.size ≤ ((0 : Int32)).toNatClampNeg) := inb_of Sz2 ⟨by decide, by decide⟩
  obtain ⟨T2, h2, X2, e2, W2, st2⟩ := stB X0 hx hZ e0 Ar2 (j := (0 : Int32)) hin2 (g := (mkF m 6 #[vr a1, vi (0 : Int32), vi p3] [(.int (p3.toInt8.toInt32)), (.int (0 : Int32)), (.ref a1)])) rfl rfl (hb hby d1_6)
  rw [own_nar_byte] at W2
  have V2 : Arv Z h2 a1 k1 .byte (8 : Int32) [(.int (p3.toInt8.toInt32)), (.int w1), (.int w2), (.int w3), (.int w4), (.int w5), (.int w6), (.int w7)] (.int (0 : Int32)) := Arv.set Ar2 q2 Sz2 Nn2 Hs2 G2 (fits_nar_byte _) W2 0 rfl (Nat.le_of_ble_eq_true rfl)
  have K3 : Keep h0 h2 [a1] := K0.wr W2 (Or.inl (List.mem_of_getElem? (i := 0) rfl))
  have Z3 : n0 ≤ h2.size := Nat.le_trans Z0 (Keep.of_wr W2).1
  have N2 := Fr.snoc X2 N0 g_a1
  have go4 : Go p e below s₁ F0 T2 (mkF m 7 #[vr a1, vi (0 : Int32), vi p3] []) := fun t k => go1 t (st2 t k)
  have go5 : Go p e below s₁ F0 T2 (mkF m 18 #[vr a1, vi (0 : Int32), vi p3] [(.int ((p3 >>> ((8 : Int32) &&& 31)).toInt8.toInt32)), (.int (1 : Int32)), (.ref a1)]) := by
    intro t kt
    refine go4 t ?_
    refine o_aloadN X2 hx (hb hby d1_7) rfl rfl ?_
    refine o_iconst X2 hx (hb hby d1_8) (v := 2) rfl ?_
    refine o_iloadN X2 hx (hb hby d1_9) rfl ?_
    refine o_imulE X2 hx (hb hby d1_10) (v := 0) rfl ?_
    refine o_iconst X2 hx (hb hby d1_11) (v := 1) rfl ?_
    refine o_iaddE X2 hx (hb hby d1_12) (v := 1) rfl ?_
    refine o_iloadN X2 hx (hb hby d1_13) rfl ?_
    refine o_bipush X2 hx (hb hby d1_14) (v := 8) rfl ?_
    refine o_ishr X2 hx (hb hby d1_16) ?_
    refine o_i2b X2 hx (hb hby d1_17) ?_
    exact kt
  obtain ⟨cl6, Ar6, q6, Sz6, Nn6, Hs6, G6⟩ := id V2
  have hin6 : ¬ ((1 : Int32) < 0 ∨ cl6.slots.size ≤ ((1 : Int32)).toNatClampNeg) := inb_of Sz6 ⟨by decide, by decide⟩
  obtain ⟨T6, h6, X6, e6, W6, st6⟩ := stB X2 hx hZ e2 Ar6 (j := (1 : Int32)) hin6 (g := (mkF m 18 #[vr a1, vi (0 : Int32), vi p3] [(.int ((p3 >>> ((8 : Int32) &&& 31)).toInt8.toInt32)), (.int (1 : Int32)), (.ref a1)])) rfl rfl (hb hby d1_18)
  rw [own_nar_byte] at W6
  have V6 : Arv Z h6 a1 k1 .byte (8 : Int32) [(.int (p3.toInt8.toInt32)), (.int ((p3 >>> ((8 : Int32) &&& 31)).toInt8.toInt32)), (.int w2), (.int w3), (.int w4), (.int w5), (.int w6), (.int w7)] (.int (0 : Int32)) := Arv.set Ar6 q6 Sz6 Nn6 Hs6 G6 (fits_nar_byte _) W6 1 rfl (Nat.le_of_ble_eq_true rfl)
  have K7 : Keep h0 h6 [a1] := K3.wr W6 (Or.inl (List.mem_of_getElem? (i := 0) rfl))
  have Z7 : n0 ≤ h6.size := Nat.le_trans Z3 (Keep.of_wr W6).1
  have N6 := Fr.snoc X6 N2 g_a1
  have go8 : Go p e below s₁ F0 T6 (mkF m 19 #[vr a1, vi (0 : Int32), vi p3] []) := fun t k => go5 t (st6 t k)
  obtain ⟨fs, hr, hrun, hended, hW, hsame⟩ := X6.leave (v := none) (fun _ => rfl)
  refine ⟨_, _, pre0 _ (go8 _ ?_), hrun, hended, _, _, rfl, ?_, ⟨_, rfl⟩, hW, hsame.mono (by decide) (by decide)⟩
  · skip
    exact X6.returnOut hx Bd.returns (hb hby d1_19) hr
  · show Q1_0 Z a1 p3 k1 w0 w1 w2 w3 w4 w5 w6 w7 h0 n0 _ T6.heap _
    rw [e6]
    exact ⟨rfl, N6, K7, V6⟩

theorem pn_1_1 : plainName "com/example/glottis/glottis/audio/Audio" = true := by first | (simp [plainName, overriddenIn]; done) | decide +kernel
theorem ef_1_1 (m : MethodId) (x0 : Addr) (x2 : Int32) : entryFrame m #[(.ref x0), (.int (1 : Int32)), (.int x2)] 3 = mkF m 0 #[vr x0, vi (1 : Int32), vi x2] [] := by first | (simp [entryFrame, mkF, argsToLocals, Value.category]; done) | rfl
def Q1_1 (Z : State) (a1 : Addr) (p3 : Int32) (k1 : ClassId) (w0 : Int32) (w1 : Int32) (w2 : Int32) (w3 : Int32) (w4 : Int32) (w5 : Int32) (w6 : Int32) (w7 : Int32) (h0 : Heap) (n0 : Nat) (v : Option Value) (h : Heap) (L : List Loc) : Prop := v = none ∧ Fr n0 L ∧ Keep h0 h [a1] ∧ Arv Z h a1 k1 .byte (8 : Int32) [(.int w0), (.int w1), (.int (p3.toInt8.toInt32)), (.int ((p3 >>> ((8 : Int32) &&& 31)).toInt8.toInt32)), (.int w4), (.int w5), (.int w6), (.int w7)] (.int (0 : Int32))
set_option maxRecDepth 65536 in
set_option maxHeartbeats 40000000 in
theorem rm1_1 (l : Launch) (Z : State) (a0 : Array Value) (hw : ∀ d ∈ tables_1, d.before a0 Z = true) (ws : List Jvm.Cond) (a1 : Addr) (p3 : Int32) (k1 : ClassId) (w0 : Int32) (w1 : Int32) (w2 : Int32) (w3 : Int32) (w4 : Int32) (w5 : Int32) (w6 : Int32) (w7 : Int32) (h0 : Heap) (n0 : Nat) (Z0 : n0 ≤ h0.size) (V0 : Arv Z h0 a1 k1 .byte (8 : Int32) [(.int w0), (.int w1), (.int w2), (.int w3), (.int w4), (.int w5), (.int w6), (.int w7)] (.int (0 : Int32))) (g_a1 : n0 ≤ a1) :
    MetFree l y_0 (head1 (Jvm.Cond.code y_0 prog_1_method_6_code 3 none :: ws) ({ frames := 0, cells := 0, slots := 0, locals := 0 } : Room)) (fun a U => a = #[(.ref a1), (.int (1 : Int32)), (.int p3)] ∧ Z.Warmed39 U.vm ∧ U.heap = h0) (fun _ _ _ _ _ => True) (fun _ U o U' => ∃ v L, o = .returned v ∧ Q1_1 Z a1 p3 k1 w0 w1 w2 w3 w4 w5 w6 w7 h0 n0 v U'.heap L ∧ FrameEnd U o U' L ({ frames := 0, cells := 0, slots := 0, locals := 0 } : Room).cells ({ frames := 0, cells := 0, slots := 0, locals := 0 } : Room).slots) := by
  refine MetFree.of_bodySF (plainFor_of_name pn_1_1) hisR ?_
  intro p e s m args below meth c s₁ Bd hml0 hP hK
  obtain ⟨rfl, hZ, hh⟩ := hP
  have hx := Bd.exec
  have hby := Bd.bytes
  have hml : c.maxLocals = 3 := hml0
  have hown : s.vm.findClass "com/example/glottis/glottis/audio/Audio" = some m.cls := findClass_of_methodNamed Bd.named
  have hnm := (name_of_methodNamed Bd.named Bd.method).1
  have X0 : Stand p l e ({ frames := 0, cells := 0, slots := 0, locals := 0 } : Room) s m #[(.ref a1), (.int (1 : Int32)), (.int p3)] below meth c s₁ [] 0 0 := Stand.of_body Bd
  have e0 : s₁.heap = h0 := by rw [← hh, Bd.state]; rfl
  have N0 := Fr.nil n0
  have K0 : Keep h0 h0 [a1] := Keep.refl h0 [a1]
  obtain ⟨F0, hF0⟩ : ∃ F : JFrame, F = entryFrame m #[(.ref a1), (.int (1 : Int32)), (.int p3)] 3 := ⟨_, rfl⟩
  have pre0 : ∀ t, Steps p.tables e below (s₁.setTop F0) t → Steps p.tables e below (s₁.setTop (entryFrame m #[(.ref a1), (.int (1 : Int32)), (.int p3)] 3)) t := fun t k => hF0 ▸ k
  have go0 : Go p e below s₁ F0 s₁ (mkF m 0 #[vr a1, vi (1 : Int32), vi p3] []) := fun t k => castTop (hF0.trans (ef_1_1 m a1 p3)) k
  have go1 : Go p e below s₁ F0 s₁ (mkF m 6 #[vr a1, vi (1 : Int32), vi p3] [(.int (p3.toInt8.toInt32)), (.int (2 : Int32)), (.ref a1)]) := by
    intro t kt
    refine go0 t ?_
    refine o_aloadN X0 hx (hb hby d1_0) rfl rfl ?_
    refine o_iconst X0 hx (hb hby d1_1) (v := 2) rfl ?_
    refine o_iloadN X0 hx (hb hby d1_2) rfl ?_
    refine o_imulE X0 hx (hb hby d1_3) (v := 2) rfl ?_
    refine o_iloadN X0 hx (hb hby d1_4) rfl ?_
    refine o_i2b X0 hx (hb hby d1_5) ?_
    exact kt
  obtain ⟨cl2, Ar2, q2, Sz2, Nn2, Hs2, G2⟩ := id V0
  have hin2 : ¬ ((2 : Int32) < 0 ∨ cl2.slots.size ≤ ((2 : Int32)).toNatClampNeg) := inb_of Sz2 ⟨by decide, by decide⟩
  obtain ⟨T2, h2, X2, e2, W2, st2⟩ := stB X0 hx hZ e0 Ar2 (j := (2 : Int32)) hin2 (g := (mkF m 6 #[vr a1, vi (1 : Int32), vi p3] [(.int (p3.toInt8.toInt32)), (.int (2 : Int32)), (.ref a1)])) rfl rfl (hb hby d1_6)
  rw [own_nar_byte] at W2
  have V2 : Arv Z h2 a1 k1 .byte (8 : Int32) [(.int w0), (.int w1), (.int (p3.toInt8.toInt32)), (.int w3), (.int w4), (.int w5), (.int w6), (.int w7)] (.int (0 : Int32)) := Arv.set Ar2 q2 Sz2 Nn2 Hs2 G2 (fits_nar_byte _) W2 2 rfl (Nat.le_of_ble_eq_true rfl)
  have K3 : Keep h0 h2 [a1] := K0.wr W2 (Or.inl (List.mem_of_getElem? (i := 0) rfl))
  have Z3 : n0 ≤ h2.size := Nat.le_trans Z0 (Keep.of_wr W2).1
  have N2 := Fr.snoc X2 N0 g_a1
  have go4 : Go p e below s₁ F0 T2 (mkF m 7 #[vr a1, vi (1 : Int32), vi p3] []) := fun t k => go1 t (st2 t k)
  have go5 : Go p e below s₁ F0 T2 (mkF m 18 #[vr a1, vi (1 : Int32), vi p3] [(.int ((p3 >>> ((8 : Int32) &&& 31)).toInt8.toInt32)), (.int (3 : Int32)), (.ref a1)]) := by
    intro t kt
    refine go4 t ?_
    refine o_aloadN X2 hx (hb hby d1_7) rfl rfl ?_
    refine o_iconst X2 hx (hb hby d1_8) (v := 2) rfl ?_
    refine o_iloadN X2 hx (hb hby d1_9) rfl ?_
    refine o_imulE X2 hx (hb hby d1_10) (v := 2) rfl ?_
    refine o_iconst X2 hx (hb hby d1_11) (v := 1) rfl ?_
    refine o_iaddE X2 hx (hb hby d1_12) (v := 3) rfl ?_
    refine o_iloadN X2 hx (hb hby d1_13) rfl ?_
    refine o_bipush X2 hx (hb hby d1_14) (v := 8) rfl ?_
    refine o_ishr X2 hx (hb hby d1_16) ?_
    refine o_i2b X2 hx (hb hby d1_17) ?_
    exact kt
  obtain ⟨cl6, Ar6, q6, Sz6, Nn6, Hs6, G6⟩ := id V2
  have hin6 : ¬ ((3 : Int32) < 0 ∨ cl6.slots.size ≤ ((3 : Int32)).toNatClampNeg) := inb_of Sz6 ⟨by decide, by decide⟩
  obtain ⟨T6, h6, X6, e6, W6, st6⟩ := stB X2 hx hZ e2 Ar6 (j := (3 : Int32)) hin6 (g := (mkF m 18 #[vr a1, vi (1 : Int32), vi p3] [(.int ((p3 >>> ((8 : Int32) &&& 31)).toInt8.toInt32)), (.int (3 : Int32)), (.ref a1)])) rfl rfl (hb hby d1_18)
  rw [own_nar_byte] at W6
  have V6 : Arv Z h6 a1 k1 .byte (8 : Int32) [(.int w0), (.int w1), (.int (p3.toInt8.toInt32)), (.int ((p3 >>> ((8 : Int32) &&& 31)).toInt8.toInt32)), (.int w4), (.int w5), (.int w6), (.int w7)] (.int (0 : Int32)) := Arv.set Ar6 q6 Sz6 Nn6 Hs6 G6 (fits_nar_byte _) W6 3 rfl (Nat.le_of_ble_eq_true rfl)
  have K7 : Keep h0 h6 [a1] := K3.wr W6 (Or.inl (List.mem_of_getElem? (i := 0) rfl))
  have Z7 : n0 ≤ h6.size := Nat.le_trans Z3 (Keep.of_wr W6).1
  have N6 := Fr.snoc X6 N2 g_a1
  have go8 : Go p e below s₁ F0 T6 (mkF m 19 #[vr a1, vi (1 : Int32), vi p3] []) := fun t k => go5 t (st6 t k)
  obtain ⟨fs, hr, hrun, hended, hW, hsame⟩ := X6.leave (v := none) (fun _ => rfl)
  refine ⟨_, _, pre0 _ (go8 _ ?_), hrun, hended, _, _, rfl, ?_, ⟨_, rfl⟩, hW, hsame.mono (by decide) (by decide)⟩
  · skip
    exact X6.returnOut hx Bd.returns (hb hby d1_19) hr
  · show Q1_1 Z a1 p3 k1 w0 w1 w2 w3 w4 w5 w6 w7 h0 n0 _ T6.heap _
    rw [e6]
    exact ⟨rfl, N6, K7, V6⟩

theorem pn_1_2 : plainName "com/example/glottis/glottis/audio/Audio" = true := by first | (simp [plainName, overriddenIn]; done) | decide +kernel
theorem ef_1_2 (m : MethodId) (x0 : Addr) (x2 : Int32) : entryFrame m #[(.ref x0), (.int (2 : Int32)), (.int x2)] 3 = mkF m 0 #[vr x0, vi (2 : Int32), vi x2] [] := by first | (simp [entryFrame, mkF, argsToLocals, Value.category]; done) | rfl
def Q1_2 (Z : State) (a1 : Addr) (p3 : Int32) (k1 : ClassId) (w0 : Int32) (w1 : Int32) (w2 : Int32) (w3 : Int32) (w4 : Int32) (w5 : Int32) (w6 : Int32) (w7 : Int32) (h0 : Heap) (n0 : Nat) (v : Option Value) (h : Heap) (L : List Loc) : Prop := v = none ∧ Fr n0 L ∧ Keep h0 h [a1] ∧ Arv Z h a1 k1 .byte (8 : Int32) [(.int w0), (.int w1), (.int w2), (.int w3), (.int (p3.toInt8.toInt32)), (.int ((p3 >>> ((8 : Int32) &&& 31)).toInt8.toInt32)), (.int w6), (.int w7)] (.int (0 : Int32))
set_option maxRecDepth 65536 in
set_option maxHeartbeats 40000000 in
theorem rm1_2 (l : Launch) (Z : State) (a0 : Array Value) (hw : ∀ d ∈ tables_1, d.before a0 Z = true) (ws : List Jvm.Cond) (a1 : Addr) (p3 : Int32) (k1 : ClassId) (w0 : Int32) (w1 : Int32) (w2 : Int32) (w3 : Int32) (w4 : Int32) (w5 : Int32) (w6 : Int32) (w7 : Int32) (h0 : Heap) (n0 : Nat) (Z0 : n0 ≤ h0.size) (V0 : Arv Z h0 a1 k1 .byte (8 : Int32) [(.int w0), (.int w1), (.int w2), (.int w3), (.int w4), (.int w5), (.int w6), (.int w7)] (.int (0 : Int32))) (g_a1 : n0 ≤ a1) :
    MetFree l y_0 (head1 (Jvm.Cond.code y_0 prog_1_method_6_code 3 none :: ws) ({ frames := 0, cells := 0, slots := 0, locals := 0 } : Room)) (fun a U => a = #[(.ref a1), (.int (2 : Int32)), (.int p3)] ∧ Z.Warmed39 U.vm ∧ U.heap = h0) (fun _ _ _ _ _ => True) (fun _ U o U' => ∃ v L, o = .returned v ∧ Q1_2 Z a1 p3 k1 w0 w1 w2 w3 w4 w5 w6 w7 h0 n0 v U'.heap L ∧ FrameEnd U o U' L ({ frames := 0, cells := 0, slots := 0, locals := 0 } : Room).cells ({ frames := 0, cells := 0, slots := 0, locals := 0 } : Room).slots) := by
  refine MetFree.of_bodySF (plainFor_of_name pn_1_2) hisR ?_
  intro p e s m args below meth c s₁ Bd hml0 hP hK
  obtain ⟨rfl, hZ, hh⟩ := hP
  have hx := Bd.exec
  have hby := Bd.bytes
  have hml : c.maxLocals = 3 := hml0
  have hown : s.vm.findClass "com/example/glottis/glottis/audio/Audio" = some m.cls := findClass_of_methodNamed Bd.named
  have hnm := (name_of_methodNamed Bd.named Bd.method).1
  have X0 : Stand p l e ({ frames := 0, cells := 0, slots := 0, locals := 0 } : Room) s m #[(.ref a1), (.int (2 : Int32)), (.int p3)] below meth c s₁ [] 0 0 := Stand.of_body Bd
  have e0 : s₁.heap = h0 := by rw [← hh, Bd.state]; rfl
  have N0 := Fr.nil n0
  have K0 : Keep h0 h0 [a1] := Keep.refl h0 [a1]
  obtain ⟨F0, hF0⟩ : ∃ F : JFrame, F = entryFrame m #[(.ref a1), (.int (2 : Int32)), (.int p3)] 3 := ⟨_, rfl⟩
  have pre0 : ∀ t, Steps p.tables e below (s₁.setTop F0) t → Steps p.tables e below (s₁.setTop (entryFrame m #[(.ref a1), (.int (2 : Int32)), (.int p3)] 3)) t := fun t k => hF0 ▸ k
  have go0 : Go p e below s₁ F0 s₁ (mkF m 0 #[vr a1, vi (2 : Int32), vi p3] []) := fun t k => castTop (hF0.trans (ef_1_2 m a1 p3)) k
  have go1 : Go p e below s₁ F0 s₁ (mkF m 6 #[vr a1, vi (2 : Int32), vi p3] [(.int (p3.toInt8.toInt32)), (.int (4 : Int32)), (.ref a1)]) := by
    intro t kt
    refine go0 t ?_
    refine o_aloadN X0 hx (hb hby d1_0) rfl rfl ?_
    refine o_iconst X0 hx (hb hby d1_1) (v := 2) rfl ?_
    refine o_iloadN X0 hx (hb hby d1_2) rfl ?_
    refine o_imulE X0 hx (hb hby d1_3) (v := 4) rfl ?_
    refine o_iloadN X0 hx (hb hby d1_4) rfl ?_
    refine o_i2b X0 hx (hb hby d1_5) ?_
    exact kt
  obtain ⟨cl2, Ar2, q2, Sz2, Nn2, Hs2, G2⟩ := id V0
  have hin2 : ¬ ((4 : Int32) < 0 ∨ cl2.slots.size ≤ ((4 : Int32)).toNatClampNeg) := inb_of Sz2 ⟨by decide, by decide⟩
  obtain ⟨T2, h2, X2, e2, W2, st2⟩ := stB X0 hx hZ e0 Ar2 (j := (4 : Int32)) hin2 (g := (mkF m 6 #[vr a1, vi (2 : Int32), vi p3] [(.int (p3.toInt8.toInt32)), (.int (4 : Int32)), (.ref a1)])) rfl rfl (hb hby d1_6)
  rw [own_nar_byte] at W2
  have V2 : Arv Z h2 a1 k1 .byte (8 : Int32) [(.int w0), (.int w1), (.int w2), (.int w3), (.int (p3.toInt8.toInt32)), (.int w5), (.int w6), (.int w7)] (.int (0 : Int32)) := Arv.set Ar2 q2 Sz2 Nn2 Hs2 G2 (fits_nar_byte _) W2 4 rfl (Nat.le_of_ble_eq_true rfl)
  have K3 : Keep h0 h2 [a1] := K0.wr W2 (Or.inl (List.mem_of_getElem? (i := 0) rfl))
  have Z3 : n0 ≤ h2.size := Nat.le_trans Z0 (Keep.of_wr W2).1
  have N2 := Fr.snoc X2 N0 g_a1
  have go4 : Go p e below s₁ F0 T2 (mkF m 7 #[vr a1, vi (2 : Int32), vi p3] []) := fun t k => go1 t (st2 t k)
  have go5 : Go p e below s₁ F0 T2 (mkF m 18 #[vr a1, vi (2 : Int32), vi p3] [(.int ((p3 >>> ((8 : Int32) &&& 31)).toInt8.toInt32)), (.int (5 : Int32)), (.ref a1)]) := by
    intro t kt
    refine go4 t ?_
    refine o_aloadN X2 hx (hb hby d1_7) rfl rfl ?_
    refine o_iconst X2 hx (hb hby d1_8) (v := 2) rfl ?_
    refine o_iloadN X2 hx (hb hby d1_9) rfl ?_
    refine o_imulE X2 hx (hb hby d1_10) (v := 4) rfl ?_
    refine o_iconst X2 hx (hb hby d1_11) (v := 1) rfl ?_
    refine o_iaddE X2 hx (hb hby d1_12) (v := 5) rfl ?_
    refine o_iloadN X2 hx (hb hby d1_13) rfl ?_
    refine o_bipush X2 hx (hb hby d1_14) (v := 8) rfl ?_
    refine o_ishr X2 hx (hb hby d1_16) ?_
    refine o_i2b X2 hx (hb hby d1_17) ?_
    exact kt
  obtain ⟨cl6, Ar6, q6, Sz6, Nn6, Hs6, G6⟩ := id V2
  have hin6 : ¬ ((5 : Int32) < 0 ∨ cl6.slots.size ≤ ((5 : Int32)).toNatClampNeg) := inb_of Sz6 ⟨by decide, by decide⟩
  obtain ⟨T6, h6, X6, e6, W6, st6⟩ := stB X2 hx hZ e2 Ar6 (j := (5 : Int32)) hin6 (g := (mkF m 18 #[vr a1, vi (2 : Int32), vi p3] [(.int ((p3 >>> ((8 : Int32) &&& 31)).toInt8.toInt32)), (.int (5 : Int32)), (.ref a1)])) rfl rfl (hb hby d1_18)
  rw [own_nar_byte] at W6
  have V6 : Arv Z h6 a1 k1 .byte (8 : Int32) [(.int w0), (.int w1), (.int w2), (.int w3), (.int (p3.toInt8.toInt32)), (.int ((p3 >>> ((8 : Int32) &&& 31)).toInt8.toInt32)), (.int w6), (.int w7)] (.int (0 : Int32)) := Arv.set Ar6 q6 Sz6 Nn6 Hs6 G6 (fits_nar_byte _) W6 5 rfl (Nat.le_of_ble_eq_true rfl)
  have K7 : Keep h0 h6 [a1] := K3.wr W6 (Or.inl (List.mem_of_getElem? (i := 0) rfl))
  have Z7 : n0 ≤ h6.size := Nat.le_trans Z3 (Keep.of_wr W6).1
  have N6 := Fr.snoc X6 N2 g_a1
  have go8 : Go p e below s₁ F0 T6 (mkF m 19 #[vr a1, vi (2 : Int32), vi p3] []) := fun t k => go5 t (st6 t k)
  obtain ⟨fs, hr, hrun, hended, hW, hsame⟩ := X6.leave (v := none) (fun _ => rfl)
  refine ⟨_, _, pre0 _ (go8 _ ?_), hrun, hended, _, _, rfl, ?_, ⟨_, rfl⟩, hW, hsame.mono (by decide) (by decide)⟩
  · skip
    exact X6.returnOut hx Bd.returns (hb hby d1_19) hr
  · show Q1_2 Z a1 p3 k1 w0 w1 w2 w3 w4 w5 w6 w7 h0 n0 _ T6.heap _
    rw [e6]
    exact ⟨rfl, N6, K7, V6⟩

theorem pn_1_3 : plainName "com/example/glottis/glottis/audio/Audio" = true := by first | (simp [plainName, overriddenIn]; done) | decide +kernel
theorem ef_1_3 (m : MethodId) (x0 : Addr) (x2 : Int32) : entryFrame m #[(.ref x0), (.int (3 : Int32)), (.int x2)] 3 = mkF m 0 #[vr x0, vi (3 : Int32), vi x2] [] := by first | (simp [entryFrame, mkF, argsToLocals, Value.category]; done) | rfl
def Q1_3 (Z : State) (a1 : Addr) (p3 : Int32) (k1 : ClassId) (w0 : Int32) (w1 : Int32) (w2 : Int32) (w3 : Int32) (w4 : Int32) (w5 : Int32) (w6 : Int32) (w7 : Int32) (h0 : Heap) (n0 : Nat) (v : Option Value) (h : Heap) (L : List Loc) : Prop := v = none ∧ Fr n0 L ∧ Keep h0 h [a1] ∧ Arv Z h a1 k1 .byte (8 : Int32) [(.int w0), (.int w1), (.int w2), (.int w3), (.int w4), (.int w5), (.int (p3.toInt8.toInt32)), (.int ((p3 >>> ((8 : Int32) &&& 31)).toInt8.toInt32))] (.int (0 : Int32))
set_option maxRecDepth 65536 in
set_option maxHeartbeats 40000000 in
theorem rm1_3 (l : Launch) (Z : State) (a0 : Array Value) (hw : ∀ d ∈ tables_1, d.before a0 Z = true) (ws : List Jvm.Cond) (a1 : Addr) (p3 : Int32) (k1 : ClassId) (w0 : Int32) (w1 : Int32) (w2 : Int32) (w3 : Int32) (w4 : Int32) (w5 : Int32) (w6 : Int32) (w7 : Int32) (h0 : Heap) (n0 : Nat) (Z0 : n0 ≤ h0.size) (V0 : Arv Z h0 a1 k1 .byte (8 : Int32) [(.int w0), (.int w1), (.int w2), (.int w3), (.int w4), (.int w5), (.int w6), (.int w7)] (.int (0 : Int32))) (g_a1 : n0 ≤ a1) :
    MetFree l y_0 (head1 (Jvm.Cond.code y_0 prog_1_method_6_code 3 none :: ws) ({ frames := 0, cells := 0, slots := 0, locals := 0 } : Room)) (fun a U => a = #[(.ref a1), (.int (3 : Int32)), (.int p3)] ∧ Z.Warmed39 U.vm ∧ U.heap = h0) (fun _ _ _ _ _ => True) (fun _ U o U' => ∃ v L, o = .returned v ∧ Q1_3 Z a1 p3 k1 w0 w1 w2 w3 w4 w5 w6 w7 h0 n0 v U'.heap L ∧ FrameEnd U o U' L ({ frames := 0, cells := 0, slots := 0, locals := 0 } : Room).cells ({ frames := 0, cells := 0, slots := 0, locals := 0 } : Room).slots) := by
  refine MetFree.of_bodySF (plainFor_of_name pn_1_3) hisR ?_
  intro p e s m args below meth c s₁ Bd hml0 hP hK
  obtain ⟨rfl, hZ, hh⟩ := hP
  have hx := Bd.exec
  have hby := Bd.bytes
  have hml : c.maxLocals = 3 := hml0
  have hown : s.vm.findClass "com/example/glottis/glottis/audio/Audio" = some m.cls := findClass_of_methodNamed Bd.named
  have hnm := (name_of_methodNamed Bd.named Bd.method).1
  have X0 : Stand p l e ({ frames := 0, cells := 0, slots := 0, locals := 0 } : Room) s m #[(.ref a1), (.int (3 : Int32)), (.int p3)] below meth c s₁ [] 0 0 := Stand.of_body Bd
  have e0 : s₁.heap = h0 := by rw [← hh, Bd.state]; rfl
  have N0 := Fr.nil n0
  have K0 : Keep h0 h0 [a1] := Keep.refl h0 [a1]
  obtain ⟨F0, hF0⟩ : ∃ F : JFrame, F = entryFrame m #[(.ref a1), (.int (3 : Int32)), (.int p3)] 3 := ⟨_, rfl⟩
  have pre0 : ∀ t, Steps p.tables e below (s₁.setTop F0) t → Steps p.tables e below (s₁.setTop (entryFrame m #[(.ref a1), (.int (3 : Int32)), (.int p3)] 3)) t := fun t k => hF0 ▸ k
  have go0 : Go p e below s₁ F0 s₁ (mkF m 0 #[vr a1, vi (3 : Int32), vi p3] []) := fun t k => castTop (hF0.trans (ef_1_3 m a1 p3)) k
  have go1 : Go p e below s₁ F0 s₁ (mkF m 6 #[vr a1, vi (3 : Int32), vi p3] [(.int (p3.toInt8.toInt32)), (.int (6 : Int32)), (.ref a1)]) := by
    intro t kt
    refine go0 t ?_
    refine o_aloadN X0 hx (hb hby d1_0) rfl rfl ?_
    refine o_iconst X0 hx (hb hby d1_1) (v := 2) rfl ?_
    refine o_iloadN X0 hx (hb hby d1_2) rfl ?_
    refine o_imulE X0 hx (hb hby d1_3) (v := 6) rfl ?_
    refine o_iloadN X0 hx (hb hby d1_4) rfl ?_
    refine o_i2b X0 hx (hb hby d1_5) ?_
    exact kt
  obtain ⟨cl2, Ar2, q2, Sz2, Nn2, Hs2, G2⟩ := id V0
  have hin2 : ¬ ((6 : Int32) < 0 ∨ cl2.slots.size ≤ ((6 : Int32)).toNatClampNeg) := inb_of Sz2 ⟨by decide, by decide⟩
  obtain ⟨T2, h2, X2, e2, W2, st2⟩ := stB X0 hx hZ e0 Ar2 (j := (6 : Int32)) hin2 (g := (mkF m 6 #[vr a1, vi (3 : Int32), vi p3] [(.int (p3.toInt8.toInt32)), (.int (6 : Int32)), (.ref a1)])) rfl rfl (hb hby d1_6)
  rw [own_nar_byte] at W2
  have V2 : Arv Z h2 a1 k1 .byte (8 : Int32) [(.int w0), (.int w1), (.int w2), (.int w3), (.int w4), (.int w5), (.int (p3.toInt8.toInt32)), (.int w7)] (.int (0 : Int32)) := Arv.set Ar2 q2 Sz2 Nn2 Hs2 G2 (fits_nar_byte _) W2 6 rfl (Nat.le_of_ble_eq_true rfl)
  have K3 : Keep h0 h2 [a1] := K0.wr W2 (Or.inl (List.mem_of_getElem? (i := 0) rfl))
  have Z3 : n0 ≤ h2.size := Nat.le_trans Z0 (Keep.of_wr W2).1
  have N2 := Fr.snoc X2 N0 g_a1
  have go4 : Go p e below s₁ F0 T2 (mkF m 7 #[vr a1, vi (3 : Int32), vi p3] []) := fun t k => go1 t (st2 t k)
  have go5 : Go p e below s₁ F0 T2 (mkF m 18 #[vr a1, vi (3 : Int32), vi p3] [(.int ((p3 >>> ((8 : Int32) &&& 31)).toInt8.toInt32)), (.int (7 : Int32)), (.ref a1)]) := by
    intro t kt
    refine go4 t ?_
    refine o_aloadN X2 hx (hb hby d1_7) rfl rfl ?_
    refine o_iconst X2 hx (hb hby d1_8) (v := 2) rfl ?_
    refine o_iloadN X2 hx (hb hby d1_9) rfl ?_
    refine o_imulE X2 hx (hb hby d1_10) (v := 6) rfl ?_
    refine o_iconst X2 hx (hb hby d1_11) (v := 1) rfl ?_
    refine o_iaddE X2 hx (hb hby d1_12) (v := 7) rfl ?_
    refine o_iloadN X2 hx (hb hby d1_13) rfl ?_
    refine o_bipush X2 hx (hb hby d1_14) (v := 8) rfl ?_
    refine o_ishr X2 hx (hb hby d1_16) ?_
    refine o_i2b X2 hx (hb hby d1_17) ?_
    exact kt
  obtain ⟨cl6, Ar6, q6, Sz6, Nn6, Hs6, G6⟩ := id V2
  have hin6 : ¬ ((7 : Int32) < 0 ∨ cl6.slots.size ≤ ((7 : Int32)).toNatClampNeg) := inb_of Sz6 ⟨by decide, by decide⟩
  obtain ⟨T6, h6, X6, e6, W6, st6⟩ := stB X2 hx hZ e2 Ar6 (j := (7 : Int32)) hin6 (g := (mkF m 18 #[vr a1, vi (3 : Int32), vi p3] [(.int ((p3 >>> ((8 : Int32) &&& 31)).toInt8.toInt32)), (.int (7 : Int32)), (.ref a1)])) rfl rfl (hb hby d1_18)
  rw [own_nar_byte] at W6
  have V6 : Arv Z h6 a1 k1 .byte (8 : Int32) [(.int w0), (.int w1), (.int w2), (.int w3), (.int w4), (.int w5), (.int (p3.toInt8.toInt32)), (.int ((p3 >>> ((8 : Int32) &&& 31)).toInt8.toInt32))] (.int (0 : Int32)) := Arv.set Ar6 q6 Sz6 Nn6 Hs6 G6 (fits_nar_byte _) W6 7 rfl (Nat.le_of_ble_eq_true rfl)
  have K7 : Keep h0 h6 [a1] := K3.wr W6 (Or.inl (List.mem_of_getElem? (i := 0) rfl))
  have Z7 : n0 ≤ h6.size := Nat.le_trans Z3 (Keep.of_wr W6).1
  have N6 := Fr.snoc X6 N2 g_a1
  have go8 : Go p e below s₁ F0 T6 (mkF m 19 #[vr a1, vi (3 : Int32), vi p3] []) := fun t k => go5 t (st6 t k)
  obtain ⟨fs, hr, hrun, hended, hW, hsame⟩ := X6.leave (v := none) (fun _ => rfl)
  refine ⟨_, _, pre0 _ (go8 _ ?_), hrun, hended, _, _, rfl, ?_, ⟨_, rfl⟩, hW, hsame.mono (by decide) (by decide)⟩
  · skip
    exact X6.returnOut hx Bd.returns (hb hby d1_19) hr
  · show Q1_3 Z a1 p3 k1 w0 w1 w2 w3 w4 w5 w6 w7 h0 n0 _ T6.heap _
    rw [e6]
    exact ⟨rfl, N6, K7, V6⟩

theorem d2_0 : decode method_2_code 0 = .ok (.iload_n 1, 1) := by decide +kernel
theorem d2_1 : decode method_2_code 1 = .ok (.iconst 1, 1) := by decide +kernel
theorem d2_2 : decode method_2_code 2 = .ok (.ishr, 1) := by decide +kernel
theorem d2_3 : decode method_2_code 3 = .ok (.iload_n 2, 1) := by decide +kernel
theorem d2_4 : decode method_2_code 4 = .ok (.if_icmp .eq 17, 3) := by decide +kernel
theorem d2_21 : decode method_2_code 21 = .ok (.iconst 1, 1) := by decide +kernel
theorem d2_22 : decode method_2_code 22 = .ok (.goto 4, 3) := by decide +kernel
theorem d2_26 : decode method_2_code 26 = .ok (.ireturn, 1) := by decide +kernel
theorem pn_2_0_0 : plainName "com/example/glottis/glottis/audio/AudioPutPinLaw" = true := by first | (simp [plainName, overriddenIn]; done) | decide +kernel
theorem ef_2_0_0 (m : MethodId) (x0 : Addr) (x3 : Int64) : entryFrame m #[(.ref x0), (.int (0 : Int32)), (.int (0 : Int32)), (.long x3)] 5 = mkF m 0 #[vr x0, vi (0 : Int32), vi (0 : Int32), vj x3, .second] [] := by first | (simp [entryFrame, mkF, argsToLocals, Value.category]; done) | rfl
def Q2_0_0 (Z : State) (a1 : Addr) (q4 : Int64) (k1 : ClassId) (w0 : Int32) (w1 : Int32) (w2 : Int32) (w3 : Int32) (w4 : Int32) (w5 : Int32) (w6 : Int32) (w7 : Int32) (h0 : Heap) (n0 : Nat) (v : Option Value) (h : Heap) (L : List Loc) : Prop := v = some (.int (1 : Int32)) ∧ Fr n0 L ∧ h = h0
set_option maxRecDepth 65536 in
set_option maxHeartbeats 40000000 in
theorem rm2_0_0 (l : Launch) (Z : State) (a0 : Array Value) (hw : ∀ d ∈ tables_1, d.before a0 Z = true) (ws : List Jvm.Cond) (a1 : Addr) (q4 : Int64) (k1 : ClassId) (w0 : Int32) (w1 : Int32) (w2 : Int32) (w3 : Int32) (w4 : Int32) (w5 : Int32) (w6 : Int32) (w7 : Int32) (h0 : Heap) (n0 : Nat) (Z0 : n0 ≤ h0.size) (V0 : Arv Z h0 a1 k1 .byte (8 : Int32) [(.int w0), (.int w1), (.int w2), (.int w3), (.int w4), (.int w5), (.int w6), (.int w7)] (.int (0 : Int32))) :
    MetFree l y_1 (head1 (Jvm.Cond.code y_1 method_2_code 5 (some .boolean) :: ws) ({ frames := 0, cells := 0, slots := 0, locals := 0 } : Room)) (fun a U => a = #[(.ref a1), (.int (0 : Int32)), (.int (0 : Int32)), (.long q4)] ∧ Z.Warmed39 U.vm ∧ U.heap = h0) (fun _ _ _ _ _ => True) (fun _ U o U' => ∃ v L, o = .returned v ∧ Q2_0_0 Z a1 q4 k1 w0 w1 w2 w3 w4 w5 w6 w7 h0 n0 v U'.heap L ∧ FrameEnd U o U' L ({ frames := 0, cells := 0, slots := 0, locals := 0 } : Room).cells ({ frames := 0, cells := 0, slots := 0, locals := 0 } : Room).slots) := by
  refine MetFree.of_bodySF (plainFor_of_name pn_2_0_0) hisR ?_
  intro p e s m args below meth c s₁ Bd hml0 hP hK
  obtain ⟨rfl, hZ, hh⟩ := hP
  have hx := Bd.exec
  have hby := Bd.bytes
  have hml : c.maxLocals = 5 := hml0
  have hown : s.vm.findClass "com/example/glottis/glottis/audio/AudioPutPinLaw" = some m.cls := findClass_of_methodNamed Bd.named
  have hnm := (name_of_methodNamed Bd.named Bd.method).1
  have X0 : Stand p l e ({ frames := 0, cells := 0, slots := 0, locals := 0 } : Room) s m #[(.ref a1), (.int (0 : Int32)), (.int (0 : Int32)), (.long q4)] below meth c s₁ [] 0 0 := Stand.of_body Bd
  have e0 : s₁.heap = h0 := by rw [← hh, Bd.state]; rfl
  have N0 := Fr.nil n0
  obtain ⟨F0, hF0⟩ : ∃ F : JFrame, F = entryFrame m #[(.ref a1), (.int (0 : Int32)), (.int (0 : Int32)), (.long q4)] 5 := ⟨_, rfl⟩
  have pre0 : ∀ t, Steps p.tables e below (s₁.setTop F0) t → Steps p.tables e below (s₁.setTop (entryFrame m #[(.ref a1), (.int (0 : Int32)), (.int (0 : Int32)), (.long q4)] 5)) t := fun t k => hF0 ▸ k
  have go0 : Go p e below s₁ F0 s₁ (mkF m 0 #[vr a1, vi (0 : Int32), vi (0 : Int32), vj q4, .second] []) := fun t k => castTop (hF0.trans (ef_2_0_0 m a1 q4)) k
  have go1 : Go p e below s₁ F0 s₁ (mkF m 26 #[vr a1, vi (0 : Int32), vi (0 : Int32), vj q4, .second] [(.int (1 : Int32))]) := by
    intro t kt
    refine go0 t ?_
    refine o_iloadN X0 hx (hb hby d2_0) rfl ?_
    refine o_iconst X0 hx (hb hby d2_1) (v := 1) rfl ?_
    refine o_ishrE X0 hx (hb hby d2_2) (v := 0) rfl ?_
    refine o_iloadN X0 hx (hb hby d2_3) rfl ?_
    refine o_icmpYes X0 hx (hb hby d2_4) (pc' := 21) rfl (by decide) (teq (by decide : (0 : Int32) = (0 : Int32))).1 ?_
    refine o_iconst X0 hx (hb hby d2_21) (v := 1) rfl ?_
    refine o_goto X0 hx (hb hby d2_22) (pc' := 26) rfl (by decide) ?_
    exact kt
  obtain ⟨fs, hr, hrun, hended, hW, hsame⟩ := X0.leave (v := some (.int (1 : Int32))) (fun h => by rw [Bd.returns] at h; cases h)
  refine ⟨_, _, pre0 _ (go1 _ ?_), hrun, hended, _, _, rfl, ?_, ⟨_, rfl⟩, hW, hsame.mono (by decide) (by decide)⟩
  · skip
    exact retN X0 hx (t := .boolean) Bd.returns (by simp) (hb hby d2_26) hr
  · show Q2_0_0 Z a1 q4 k1 w0 w1 w2 w3 w4 w5 w6 w7 h0 n0 _ s₁.heap _
    rw [e0]
    exact ⟨rfl, N0, rfl⟩

theorem pn_2_0_1 : plainName "com/example/glottis/glottis/audio/AudioPutPinLaw" = true := by first | (simp [plainName, overriddenIn]; done) | decide +kernel
theorem ef_2_0_1 (m : MethodId) (x0 : Addr) (x3 : Int64) : entryFrame m #[(.ref x0), (.int (1 : Int32)), (.int (0 : Int32)), (.long x3)] 5 = mkF m 0 #[vr x0, vi (1 : Int32), vi (0 : Int32), vj x3, .second] [] := by first | (simp [entryFrame, mkF, argsToLocals, Value.category]; done) | rfl
def Q2_0_1 (Z : State) (a1 : Addr) (q4 : Int64) (k1 : ClassId) (w0 : Int32) (w1 : Int32) (w2 : Int32) (w3 : Int32) (w4 : Int32) (w5 : Int32) (w6 : Int32) (w7 : Int32) (h0 : Heap) (n0 : Nat) (v : Option Value) (h : Heap) (L : List Loc) : Prop := v = some (.int (1 : Int32)) ∧ Fr n0 L ∧ h = h0
set_option maxRecDepth 65536 in
set_option maxHeartbeats 40000000 in
theorem rm2_0_1 (l : Launch) (Z : State) (a0 : Array Value) (hw : ∀ d ∈ tables_1, d.before a0 Z = true) (ws : List Jvm.Cond) (a1 : Addr) (q4 : Int64) (k1 : ClassId) (w0 : Int32) (w1 : Int32) (w2 : Int32) (w3 : Int32) (w4 : Int32) (w5 : Int32) (w6 : Int32) (w7 : Int32) (h0 : Heap) (n0 : Nat) (Z0 : n0 ≤ h0.size) (V0 : Arv Z h0 a1 k1 .byte (8 : Int32) [(.int w0), (.int w1), (.int w2), (.int w3), (.int w4), (.int w5), (.int w6), (.int w7)] (.int (0 : Int32))) :
    MetFree l y_1 (head1 (Jvm.Cond.code y_1 method_2_code 5 (some .boolean) :: ws) ({ frames := 0, cells := 0, slots := 0, locals := 0 } : Room)) (fun a U => a = #[(.ref a1), (.int (1 : Int32)), (.int (0 : Int32)), (.long q4)] ∧ Z.Warmed39 U.vm ∧ U.heap = h0) (fun _ _ _ _ _ => True) (fun _ U o U' => ∃ v L, o = .returned v ∧ Q2_0_1 Z a1 q4 k1 w0 w1 w2 w3 w4 w5 w6 w7 h0 n0 v U'.heap L ∧ FrameEnd U o U' L ({ frames := 0, cells := 0, slots := 0, locals := 0 } : Room).cells ({ frames := 0, cells := 0, slots := 0, locals := 0 } : Room).slots) := by
  refine MetFree.of_bodySF (plainFor_of_name pn_2_0_1) hisR ?_
  intro p e s m args below meth c s₁ Bd hml0 hP hK
  obtain ⟨rfl, hZ, hh⟩ := hP
  have hx := Bd.exec
  have hby := Bd.bytes
  have hml : c.maxLocals = 5 := hml0
  have hown : s.vm.findClass "com/example/glottis/glottis/audio/AudioPutPinLaw" = some m.cls := findClass_of_methodNamed Bd.named
  have hnm := (name_of_methodNamed Bd.named Bd.method).1
  have X0 : Stand p l e ({ frames := 0, cells := 0, slots := 0, locals := 0 } : Room) s m #[(.ref a1), (.int (1 : Int32)), (.int (0 : Int32)), (.long q4)] below meth c s₁ [] 0 0 := Stand.of_body Bd
  have e0 : s₁.heap = h0 := by rw [← hh, Bd.state]; rfl
  have N0 := Fr.nil n0
  obtain ⟨F0, hF0⟩ : ∃ F : JFrame, F = entryFrame m #[(.ref a1), (.int (1 : Int32)), (.int (0 : Int32)), (.long q4)] 5 := ⟨_, rfl⟩
  have pre0 : ∀ t, Steps p.tables e below (s₁.setTop F0) t → Steps p.tables e below (s₁.setTop (entryFrame m #[(.ref a1), (.int (1 : Int32)), (.int (0 : Int32)), (.long q4)] 5)) t := fun t k => hF0 ▸ k
  have go0 : Go p e below s₁ F0 s₁ (mkF m 0 #[vr a1, vi (1 : Int32), vi (0 : Int32), vj q4, .second] []) := fun t k => castTop (hF0.trans (ef_2_0_1 m a1 q4)) k
  have go1 : Go p e below s₁ F0 s₁ (mkF m 26 #[vr a1, vi (1 : Int32), vi (0 : Int32), vj q4, .second] [(.int (1 : Int32))]) := by
    intro t kt
    refine go0 t ?_
    refine o_iloadN X0 hx (hb hby d2_0) rfl ?_
    refine o_iconst X0 hx (hb hby d2_1) (v := 1) rfl ?_
    refine o_ishrE X0 hx (hb hby d2_2) (v := 0) rfl ?_
    refine o_iloadN X0 hx (hb hby d2_3) rfl ?_
    refine o_icmpYes X0 hx (hb hby d2_4) (pc' := 21) rfl (by decide) (teq (by decide : (0 : Int32) = (0 : Int32))).1 ?_
    refine o_iconst X0 hx (hb hby d2_21) (v := 1) rfl ?_
    refine o_goto X0 hx (hb hby d2_22) (pc' := 26) rfl (by decide) ?_
    exact kt
  obtain ⟨fs, hr, hrun, hended, hW, hsame⟩ := X0.leave (v := some (.int (1 : Int32))) (fun h => by rw [Bd.returns] at h; cases h)
  refine ⟨_, _, pre0 _ (go1 _ ?_), hrun, hended, _, _, rfl, ?_, ⟨_, rfl⟩, hW, hsame.mono (by decide) (by decide)⟩
  · skip
    exact retN X0 hx (t := .boolean) Bd.returns (by simp) (hb hby d2_26) hr
  · show Q2_0_1 Z a1 q4 k1 w0 w1 w2 w3 w4 w5 w6 w7 h0 n0 _ s₁.heap _
    rw [e0]
    exact ⟨rfl, N0, rfl⟩

theorem d2_7 : decode method_2_code 7 = .ok (.aload_n 0, 1) := by decide +kernel
theorem d2_8 : decode method_2_code 8 = .ok (.iload_n 1, 1) := by decide +kernel
theorem d2_9 : decode method_2_code 9 = .ok (.baload, 1) := by decide +kernel
theorem d2_10 : decode method_2_code 10 = .ok (.lload_n 3, 1) := by decide +kernel
theorem d2_11 : decode method_2_code 11 = .ok (.bipush 8, 2) := by decide +kernel
theorem d2_13 : decode method_2_code 13 = .ok (.iload_n 1, 1) := by decide +kernel
theorem d2_14 : decode method_2_code 14 = .ok (.imul, 1) := by decide +kernel
theorem d2_15 : decode method_2_code 15 = .ok (.lshr, 1) := by decide +kernel
theorem d2_16 : decode method_2_code 16 = .ok (.l2i, 1) := by decide +kernel
theorem d2_17 : decode method_2_code 17 = .ok (.i2b, 1) := by decide +kernel
theorem d2_18 : decode method_2_code 18 = .ok (.if_icmp .ne 7, 3) := by decide +kernel
theorem pn_2_0_2 : plainName "com/example/glottis/glottis/audio/AudioPutPinLaw" = true := by first | (simp [plainName, overriddenIn]; done) | decide +kernel
theorem ef_2_0_2 (m : MethodId) (x0 : Addr) (x3 : Int64) : entryFrame m #[(.ref x0), (.int (2 : Int32)), (.int (0 : Int32)), (.long x3)] 5 = mkF m 0 #[vr x0, vi (2 : Int32), vi (0 : Int32), vj x3, .second] [] := by first | (simp [entryFrame, mkF, argsToLocals, Value.category]; done) | rfl
def Q2_0_2 (Z : State) (a1 : Addr) (q4 : Int64) (k1 : ClassId) (w0 : Int32) (w1 : Int32) (w2 : Int32) (w3 : Int32) (w4 : Int32) (w5 : Int32) (w6 : Int32) (w7 : Int32) (h0 : Heap) (n0 : Nat) (v : Option Value) (h : Heap) (L : List Loc) : Prop := v = some (.int (1 : Int32)) ∧ Fr n0 L ∧ h = h0
set_option maxRecDepth 65536 in
set_option maxHeartbeats 40000000 in
theorem rm2_0_2 (l : Launch) (Z : State) (a0 : Array Value) (hw : ∀ d ∈ tables_1, d.before a0 Z = true) (ws : List Jvm.Cond) (a1 : Addr) (q4 : Int64) (k1 : ClassId) (w0 : Int32) (w1 : Int32) (w2 : Int32) (w3 : Int32) (w4 : Int32) (w5 : Int32) (w6 : Int32) (w7 : Int32) (h0 : Heap) (n0 : Nat) (Z0 : n0 ≤ h0.size) (V0 : Arv Z h0 a1 k1 .byte (8 : Int32) [(.int w0), (.int w1), (.int w2), (.int w3), (.int w4), (.int w5), (.int w6), (.int w7)] (.int (0 : Int32))) (hv : w2 = ((q4 >>> ((16 : Int32) &&& 0x3f).toInt64).toInt32.toInt8.toInt32)) :
    MetFree l y_1 (head1 (Jvm.Cond.code y_1 method_2_code 5 (some .boolean) :: ws) ({ frames := 0, cells := 0, slots := 0, locals := 0 } : Room)) (fun a U => a = #[(.ref a1), (.int (2 : Int32)), (.int (0 : Int32)), (.long q4)] ∧ Z.Warmed39 U.vm ∧ U.heap = h0) (fun _ _ _ _ _ => True) (fun _ U o U' => ∃ v L, o = .returned v ∧ Q2_0_2 Z a1 q4 k1 w0 w1 w2 w3 w4 w5 w6 w7 h0 n0 v U'.heap L ∧ FrameEnd U o U' L ({ frames := 0, cells := 0, slots := 0, locals := 0 } : Room).cells ({ frames := 0, cells := 0, slots := 0, locals := 0 } : Room).slots) := by
  refine MetFree.of_bodySF (plainFor_of_name pn_2_0_2) hisR ?_
  intro p e s m args below meth c s₁ Bd hml0 hP hK
  obtain ⟨rfl, hZ, hh⟩ := hP
  have hx := Bd.exec
  have hby := Bd.bytes
  have hml : c.maxLocals = 5 := hml0
  have hown : s.vm.findClass "com/example/glottis/glottis/audio/AudioPutPinLaw" = some m.cls := findClass_of_methodNamed Bd.named
  have hnm := (name_of_methodNamed Bd.named Bd.method).1
  have X0 : Stand p l e ({ frames := 0, cells := 0, slots := 0, locals := 0 } : Room) s m #[(.ref a1), (.int (2 : Int32)), (.int (0 : Int32)), (.long q4)] below meth c s₁ [] 0 0 := Stand.of_body Bd
  have e0 : s₁.heap = h0 := by rw [← hh, Bd.state]; rfl
  have N0 := Fr.nil n0
  obtain ⟨F0, hF0⟩ : ∃ F : JFrame, F = entryFrame m #[(.ref a1), (.int (2 : Int32)), (.int (0 : Int32)), (.long q4)] 5 := ⟨_, rfl⟩
  have pre0 : ∀ t, Steps p.tables e below (s₁.setTop F0) t → Steps p.tables e below (s₁.setTop (entryFrame m #[(.ref a1), (.int (2 : Int32)), (.int (0 : Int32)), (.long q4)] 5)) t := fun t k => hF0 ▸ k
  have go0 : Go p e below s₁ F0 s₁ (mkF m 0 #[vr a1, vi (2 : Int32), vi (0 : Int32), vj q4, .second] []) := fun t k => castTop (hF0.trans (ef_2_0_2 m a1 q4)) k
  have go1 : Go p e below s₁ F0 s₁ (mkF m 9 #[vr a1, vi (2 : Int32), vi (0 : Int32), vj q4, .second] [(.int (2 : Int32)), (.ref a1)]) := by
    intro t kt
    refine go0 t ?_
    refine o_iloadN X0 hx (hb hby d2_0) rfl ?_
    refine o_iconst X0 hx (hb hby d2_1) (v := 1) rfl ?_
    refine o_ishrE X0 hx (hb hby d2_2) (v := 1) rfl ?_
    refine o_iloadN X0 hx (hb hby d2_3) rfl ?_
    refine o_icmpNo X0 hx (hb hby d2_4) (feq (by decide : ¬ ((1 : Int32) = (0 : Int32)))).1 ?_
    refine o_aloadN X0 hx (hb hby d2_7) rfl rfl ?_
    refine o_iloadN X0 hx (hb hby d2_8) rfl ?_
    exact kt
  obtain ⟨cl2, Ar2, -, Sz2, Nn2, Hs2, -⟩ := id V0
  have hin2 : ¬ ((2 : Int32) < 0 ∨ cl2.slots.size ≤ ((2 : Int32)).toNatClampNeg) := inb_of Sz2 ⟨by decide, by decide⟩
  have hat2 : cl2.slots[((2 : Int32)).toNatClampNeg]? = some (.int w2) := Hs2.at hin2 rfl
  have go4 : Go p e below s₁ F0 s₁ (mkF m 18 #[vr a1, vi (2 : Int32), vi (0 : Int32), vj q4, .second] [(.int (((q4 >>> ((16 : Int32) &&& 0x3f).toInt64).toInt32).toInt8.toInt32)), (.int w2)]) := by
    intro t kt
    refine go1 t ?_
    refine o_baload X0 hx hZ e0 Ar2 hin2 hat2 (hb hby d2_9) ?_
    refine o_lloadN X0 hx (hb hby d2_10) rfl ?_
    refine o_bipush X0 hx (hb hby d2_11) (v := 8) rfl ?_
    refine o_iloadN X0 hx (hb hby d2_13) rfl ?_
    refine o_imulE X0 hx (hb hby d2_14) (v := 16) rfl ?_
    refine o_lshr X0 hx (hb hby d2_15) ?_
    refine o_l2i X0 hx (hb hby d2_16) ?_
    refine o_i2b X0 hx (hb hby d2_17) ?_
    exact kt
  have hd3 : w2 = (((q4 >>> ((16 : Int32) &&& 0x3f).toInt64).toInt32).toInt8.toInt32) := hv
  have go5 : Go p e below s₁ F0 s₁ (mkF m 26 #[vr a1, vi (2 : Int32), vi (0 : Int32), vj q4, .second] [(.int (1 : Int32))]) := by
    intro t kt
    refine go4 t ?_
    refine o_icmpNo X0 hx (hb hby d2_18) (teq hd3).2 ?_
    refine o_iconst X0 hx (hb hby d2_21) (v := 1) rfl ?_
    refine o_goto X0 hx (hb hby d2_22) (pc' := 26) rfl (by decide) ?_
    exact kt
  obtain ⟨fs, hr, hrun, hended, hW, hsame⟩ := X0.leave (v := some (.int (1 : Int32))) (fun h => by rw [Bd.returns] at h; cases h)
  refine ⟨_, _, pre0 _ (go5 _ ?_), hrun, hended, _, _, rfl, ?_, ⟨_, rfl⟩, hW, hsame.mono (by decide) (by decide)⟩
  · skip
    exact retN X0 hx (t := .boolean) Bd.returns (by simp) (hb hby d2_26) hr
  · show Q2_0_2 Z a1 q4 k1 w0 w1 w2 w3 w4 w5 w6 w7 h0 n0 _ s₁.heap _
    rw [e0]
    exact ⟨rfl, N0, rfl⟩

theorem pn_2_0_3 : plainName "com/example/glottis/glottis/audio/AudioPutPinLaw" = true := by first | (simp [plainName, overriddenIn]; done) | decide +kernel
theorem ef_2_0_3 (m : MethodId) (x0 : Addr) (x3 : Int64) : entryFrame m #[(.ref x0), (.int (3 : Int32)), (.int (0 : Int32)), (.long x3)] 5 = mkF m 0 #[vr x0, vi (3 : Int32), vi (0 : Int32), vj x3, .second] [] := by first | (simp [entryFrame, mkF, argsToLocals, Value.category]; done) | rfl
def Q2_0_3 (Z : State) (a1 : Addr) (q4 : Int64) (k1 : ClassId) (w0 : Int32) (w1 : Int32) (w2 : Int32) (w3 : Int32) (w4 : Int32) (w5 : Int32) (w6 : Int32) (w7 : Int32) (h0 : Heap) (n0 : Nat) (v : Option Value) (h : Heap) (L : List Loc) : Prop := v = some (.int (1 : Int32)) ∧ Fr n0 L ∧ h = h0
set_option maxRecDepth 65536 in
set_option maxHeartbeats 40000000 in
theorem rm2_0_3 (l : Launch) (Z : State) (a0 : Array Value) (hw : ∀ d ∈ tables_1, d.before a0 Z = true) (ws : List Jvm.Cond) (a1 : Addr) (q4 : Int64) (k1 : ClassId) (w0 : Int32) (w1 : Int32) (w2 : Int32) (w3 : Int32) (w4 : Int32) (w5 : Int32) (w6 : Int32) (w7 : Int32) (h0 : Heap) (n0 : Nat) (Z0 : n0 ≤ h0.size) (V0 : Arv Z h0 a1 k1 .byte (8 : Int32) [(.int w0), (.int w1), (.int w2), (.int w3), (.int w4), (.int w5), (.int w6), (.int w7)] (.int (0 : Int32))) (hv : w3 = ((q4 >>> ((24 : Int32) &&& 0x3f).toInt64).toInt32.toInt8.toInt32)) :
    MetFree l y_1 (head1 (Jvm.Cond.code y_1 method_2_code 5 (some .boolean) :: ws) ({ frames := 0, cells := 0, slots := 0, locals := 0 } : Room)) (fun a U => a = #[(.ref a1), (.int (3 : Int32)), (.int (0 : Int32)), (.long q4)] ∧ Z.Warmed39 U.vm ∧ U.heap = h0) (fun _ _ _ _ _ => True) (fun _ U o U' => ∃ v L, o = .returned v ∧ Q2_0_3 Z a1 q4 k1 w0 w1 w2 w3 w4 w5 w6 w7 h0 n0 v U'.heap L ∧ FrameEnd U o U' L ({ frames := 0, cells := 0, slots := 0, locals := 0 } : Room).cells ({ frames := 0, cells := 0, slots := 0, locals := 0 } : Room).slots) := by
  refine MetFree.of_bodySF (plainFor_of_name pn_2_0_3) hisR ?_
  intro p e s m args below meth c s₁ Bd hml0 hP hK
  obtain ⟨rfl, hZ, hh⟩ := hP
  have hx := Bd.exec
  have hby := Bd.bytes
  have hml : c.maxLocals = 5 := hml0
  have hown : s.vm.findClass "com/example/glottis/glottis/audio/AudioPutPinLaw" = some m.cls := findClass_of_methodNamed Bd.named
  have hnm := (name_of_methodNamed Bd.named Bd.method).1
  have X0 : Stand p l e ({ frames := 0, cells := 0, slots := 0, locals := 0 } : Room) s m #[(.ref a1), (.int (3 : Int32)), (.int (0 : Int32)), (.long q4)] below meth c s₁ [] 0 0 := Stand.of_body Bd
  have e0 : s₁.heap = h0 := by rw [← hh, Bd.state]; rfl
  have N0 := Fr.nil n0
  obtain ⟨F0, hF0⟩ : ∃ F : JFrame, F = entryFrame m #[(.ref a1), (.int (3 : Int32)), (.int (0 : Int32)), (.long q4)] 5 := ⟨_, rfl⟩
  have pre0 : ∀ t, Steps p.tables e below (s₁.setTop F0) t → Steps p.tables e below (s₁.setTop (entryFrame m #[(.ref a1), (.int (3 : Int32)), (.int (0 : Int32)), (.long q4)] 5)) t := fun t k => hF0 ▸ k
  have go0 : Go p e below s₁ F0 s₁ (mkF m 0 #[vr a1, vi (3 : Int32), vi (0 : Int32), vj q4, .second] []) := fun t k => castTop (hF0.trans (ef_2_0_3 m a1 q4)) k
  have go1 : Go p e below s₁ F0 s₁ (mkF m 9 #[vr a1, vi (3 : Int32), vi (0 : Int32), vj q4, .second] [(.int (3 : Int32)), (.ref a1)]) := by
    intro t kt
    refine go0 t ?_
    refine o_iloadN X0 hx (hb hby d2_0) rfl ?_
    refine o_iconst X0 hx (hb hby d2_1) (v := 1) rfl ?_
    refine o_ishrE X0 hx (hb hby d2_2) (v := 1) rfl ?_
    refine o_iloadN X0 hx (hb hby d2_3) rfl ?_
    refine o_icmpNo X0 hx (hb hby d2_4) (feq (by decide : ¬ ((1 : Int32) = (0 : Int32)))).1 ?_
    refine o_aloadN X0 hx (hb hby d2_7) rfl rfl ?_
    refine o_iloadN X0 hx (hb hby d2_8) rfl ?_
    exact kt
  obtain ⟨cl2, Ar2, -, Sz2, Nn2, Hs2, -⟩ := id V0
  have hin2 : ¬ ((3 : Int32) < 0 ∨ cl2.slots.size ≤ ((3 : Int32)).toNatClampNeg) := inb_of Sz2 ⟨by decide, by decide⟩
  have hat2 : cl2.slots[((3 : Int32)).toNatClampNeg]? = some (.int w3) := Hs2.at hin2 rfl
  have go4 : Go p e below s₁ F0 s₁ (mkF m 18 #[vr a1, vi (3 : Int32), vi (0 : Int32), vj q4, .second] [(.int (((q4 >>> ((24 : Int32) &&& 0x3f).toInt64).toInt32).toInt8.toInt32)), (.int w3)]) := by
    intro t kt
    refine go1 t ?_
    refine o_baload X0 hx hZ e0 Ar2 hin2 hat2 (hb hby d2_9) ?_
    refine o_lloadN X0 hx (hb hby d2_10) rfl ?_
    refine o_bipush X0 hx (hb hby d2_11) (v := 8) rfl ?_
    refine o_iloadN X0 hx (hb hby d2_13) rfl ?_
    refine o_imulE X0 hx (hb hby d2_14) (v := 24) rfl ?_
    refine o_lshr X0 hx (hb hby d2_15) ?_
    refine o_l2i X0 hx (hb hby d2_16) ?_
    refine o_i2b X0 hx (hb hby d2_17) ?_
    exact kt
  have hd3 : w3 = (((q4 >>> ((24 : Int32) &&& 0x3f).toInt64).toInt32).toInt8.toInt32) := hv
  have go5 : Go p e below s₁ F0 s₁ (mkF m 26 #[vr a1, vi (3 : Int32), vi (0 : Int32), vj q4, .second] [(.int (1 : Int32))]) := by
    intro t kt
    refine go4 t ?_
    refine o_icmpNo X0 hx (hb hby d2_18) (teq hd3).2 ?_
    refine o_iconst X0 hx (hb hby d2_21) (v := 1) rfl ?_
    refine o_goto X0 hx (hb hby d2_22) (pc' := 26) rfl (by decide) ?_
    exact kt
  obtain ⟨fs, hr, hrun, hended, hW, hsame⟩ := X0.leave (v := some (.int (1 : Int32))) (fun h => by rw [Bd.returns] at h; cases h)
  refine ⟨_, _, pre0 _ (go5 _ ?_), hrun, hended, _, _, rfl, ?_, ⟨_, rfl⟩, hW, hsame.mono (by decide) (by decide)⟩
  · skip
    exact retN X0 hx (t := .boolean) Bd.returns (by simp) (hb hby d2_26) hr
  · show Q2_0_3 Z a1 q4 k1 w0 w1 w2 w3 w4 w5 w6 w7 h0 n0 _ s₁.heap _
    rw [e0]
    exact ⟨rfl, N0, rfl⟩

theorem pn_2_0_4 : plainName "com/example/glottis/glottis/audio/AudioPutPinLaw" = true := by first | (simp [plainName, overriddenIn]; done) | decide +kernel
theorem ef_2_0_4 (m : MethodId) (x0 : Addr) (x3 : Int64) : entryFrame m #[(.ref x0), (.int (4 : Int32)), (.int (0 : Int32)), (.long x3)] 5 = mkF m 0 #[vr x0, vi (4 : Int32), vi (0 : Int32), vj x3, .second] [] := by first | (simp [entryFrame, mkF, argsToLocals, Value.category]; done) | rfl
def Q2_0_4 (Z : State) (a1 : Addr) (q4 : Int64) (k1 : ClassId) (w0 : Int32) (w1 : Int32) (w2 : Int32) (w3 : Int32) (w4 : Int32) (w5 : Int32) (w6 : Int32) (w7 : Int32) (h0 : Heap) (n0 : Nat) (v : Option Value) (h : Heap) (L : List Loc) : Prop := v = some (.int (1 : Int32)) ∧ Fr n0 L ∧ h = h0
set_option maxRecDepth 65536 in
set_option maxHeartbeats 40000000 in
theorem rm2_0_4 (l : Launch) (Z : State) (a0 : Array Value) (hw : ∀ d ∈ tables_1, d.before a0 Z = true) (ws : List Jvm.Cond) (a1 : Addr) (q4 : Int64) (k1 : ClassId) (w0 : Int32) (w1 : Int32) (w2 : Int32) (w3 : Int32) (w4 : Int32) (w5 : Int32) (w6 : Int32) (w7 : Int32) (h0 : Heap) (n0 : Nat) (Z0 : n0 ≤ h0.size) (V0 : Arv Z h0 a1 k1 .byte (8 : Int32) [(.int w0), (.int w1), (.int w2), (.int w3), (.int w4), (.int w5), (.int w6), (.int w7)] (.int (0 : Int32))) (hv : w4 = ((q4 >>> ((32 : Int32) &&& 0x3f).toInt64).toInt32.toInt8.toInt32)) :
    MetFree l y_1 (head1 (Jvm.Cond.code y_1 method_2_code 5 (some .boolean) :: ws) ({ frames := 0, cells := 0, slots := 0, locals := 0 } : Room)) (fun a U => a = #[(.ref a1), (.int (4 : Int32)), (.int (0 : Int32)), (.long q4)] ∧ Z.Warmed39 U.vm ∧ U.heap = h0) (fun _ _ _ _ _ => True) (fun _ U o U' => ∃ v L, o = .returned v ∧ Q2_0_4 Z a1 q4 k1 w0 w1 w2 w3 w4 w5 w6 w7 h0 n0 v U'.heap L ∧ FrameEnd U o U' L ({ frames := 0, cells := 0, slots := 0, locals := 0 } : Room).cells ({ frames := 0, cells := 0, slots := 0, locals := 0 } : Room).slots) := by
  refine MetFree.of_bodySF (plainFor_of_name pn_2_0_4) hisR ?_
  intro p e s m args below meth c s₁ Bd hml0 hP hK
  obtain ⟨rfl, hZ, hh⟩ := hP
  have hx := Bd.exec
  have hby := Bd.bytes
  have hml : c.maxLocals = 5 := hml0
  have hown : s.vm.findClass "com/example/glottis/glottis/audio/AudioPutPinLaw" = some m.cls := findClass_of_methodNamed Bd.named
  have hnm := (name_of_methodNamed Bd.named Bd.method).1
  have X0 : Stand p l e ({ frames := 0, cells := 0, slots := 0, locals := 0 } : Room) s m #[(.ref a1), (.int (4 : Int32)), (.int (0 : Int32)), (.long q4)] below meth c s₁ [] 0 0 := Stand.of_body Bd
  have e0 : s₁.heap = h0 := by rw [← hh, Bd.state]; rfl
  have N0 := Fr.nil n0
  obtain ⟨F0, hF0⟩ : ∃ F : JFrame, F = entryFrame m #[(.ref a1), (.int (4 : Int32)), (.int (0 : Int32)), (.long q4)] 5 := ⟨_, rfl⟩
  have pre0 : ∀ t, Steps p.tables e below (s₁.setTop F0) t → Steps p.tables e below (s₁.setTop (entryFrame m #[(.ref a1), (.int (4 : Int32)), (.int (0 : Int32)), (.long q4)] 5)) t := fun t k => hF0 ▸ k
  have go0 : Go p e below s₁ F0 s₁ (mkF m 0 #[vr a1, vi (4 : Int32), vi (0 : Int32), vj q4, .second] []) := fun t k => castTop (hF0.trans (ef_2_0_4 m a1 q4)) k
  have go1 : Go p e below s₁ F0 s₁ (mkF m 9 #[vr a1, vi (4 : Int32), vi (0 : Int32), vj q4, .second] [(.int (4 : Int32)), (.ref a1)]) := by
    intro t kt
    refine go0 t ?_
    refine o_iloadN X0 hx (hb hby d2_0) rfl ?_
    refine o_iconst X0 hx (hb hby d2_1) (v := 1) rfl ?_
    refine o_ishrE X0 hx (hb hby d2_2) (v := 2) rfl ?_
    refine o_iloadN X0 hx (hb hby d2_3) rfl ?_
    refine o_icmpNo X0 hx (hb hby d2_4) (feq (by decide : ¬ ((2 : Int32) = (0 : Int32)))).1 ?_
    refine o_aloadN X0 hx (hb hby d2_7) rfl rfl ?_
    refine o_iloadN X0 hx (hb hby d2_8) rfl ?_
    exact kt
  obtain ⟨cl2, Ar2, -, Sz2, Nn2, Hs2, -⟩ := id V0
  have hin2 : ¬ ((4 : Int32) < 0 ∨ cl2.slots.size ≤ ((4 : Int32)).toNatClampNeg) := inb_of Sz2 ⟨by decide, by decide⟩
  have hat2 : cl2.slots[((4 : Int32)).toNatClampNeg]? = some (.int w4) := Hs2.at hin2 rfl
  have go4 : Go p e below s₁ F0 s₁ (mkF m 18 #[vr a1, vi (4 : Int32), vi (0 : Int32), vj q4, .second] [(.int (((q4 >>> ((32 : Int32) &&& 0x3f).toInt64).toInt32).toInt8.toInt32)), (.int w4)]) := by
    intro t kt
    refine go1 t ?_
    refine o_baload X0 hx hZ e0 Ar2 hin2 hat2 (hb hby d2_9) ?_
    refine o_lloadN X0 hx (hb hby d2_10) rfl ?_
    refine o_bipush X0 hx (hb hby d2_11) (v := 8) rfl ?_
    refine o_iloadN X0 hx (hb hby d2_13) rfl ?_
    refine o_imulE X0 hx (hb hby d2_14) (v := 32) rfl ?_
    refine o_lshr X0 hx (hb hby d2_15) ?_
    refine o_l2i X0 hx (hb hby d2_16) ?_
    refine o_i2b X0 hx (hb hby d2_17) ?_
    exact kt
  have hd3 : w4 = (((q4 >>> ((32 : Int32) &&& 0x3f).toInt64).toInt32).toInt8.toInt32) := hv
  have go5 : Go p e below s₁ F0 s₁ (mkF m 26 #[vr a1, vi (4 : Int32), vi (0 : Int32), vj q4, .second] [(.int (1 : Int32))]) := by
    intro t kt
    refine go4 t ?_
    refine o_icmpNo X0 hx (hb hby d2_18) (teq hd3).2 ?_
    refine o_iconst X0 hx (hb hby d2_21) (v := 1) rfl ?_
    refine o_goto X0 hx (hb hby d2_22) (pc' := 26) rfl (by decide) ?_
    exact kt
  obtain ⟨fs, hr, hrun, hended, hW, hsame⟩ := X0.leave (v := some (.int (1 : Int32))) (fun h => by rw [Bd.returns] at h; cases h)
  refine ⟨_, _, pre0 _ (go5 _ ?_), hrun, hended, _, _, rfl, ?_, ⟨_, rfl⟩, hW, hsame.mono (by decide) (by decide)⟩
  · skip
    exact retN X0 hx (t := .boolean) Bd.returns (by simp) (hb hby d2_26) hr
  · show Q2_0_4 Z a1 q4 k1 w0 w1 w2 w3 w4 w5 w6 w7 h0 n0 _ s₁.heap _
    rw [e0]
    exact ⟨rfl, N0, rfl⟩

theorem pn_2_0_5 : plainName "com/example/glottis/glottis/audio/AudioPutPinLaw" = true := by first | (simp [plainName, overriddenIn]; done) | decide +kernel
theorem ef_2_0_5 (m : MethodId) (x0 : Addr) (x3 : Int64) : entryFrame m #[(.ref x0), (.int (5 : Int32)), (.int (0 : Int32)), (.long x3)] 5 = mkF m 0 #[vr x0, vi (5 : Int32), vi (0 : Int32), vj x3, .second] [] := by first | (simp [entryFrame, mkF, argsToLocals, Value.category]; done) | rfl
def Q2_0_5 (Z : State) (a1 : Addr) (q4 : Int64) (k1 : ClassId) (w0 : Int32) (w1 : Int32) (w2 : Int32) (w3 : Int32) (w4 : Int32) (w5 : Int32) (w6 : Int32) (w7 : Int32) (h0 : Heap) (n0 : Nat) (v : Option Value) (h : Heap) (L : List Loc) : Prop := v = some (.int (1 : Int32)) ∧ Fr n0 L ∧ h = h0
set_option maxRecDepth 65536 in
set_option maxHeartbeats 40000000 in
theorem rm2_0_5 (l : Launch) (Z : State) (a0 : Array Value) (hw : ∀ d ∈ tables_1, d.before a0 Z = true) (ws : List Jvm.Cond) (a1 : Addr) (q4 : Int64) (k1 : ClassId) (w0 : Int32) (w1 : Int32) (w2 : Int32) (w3 : Int32) (w4 : Int32) (w5 : Int32) (w6 : Int32) (w7 : Int32) (h0 : Heap) (n0 : Nat) (Z0 : n0 ≤ h0.size) (V0 : Arv Z h0 a1 k1 .byte (8 : Int32) [(.int w0), (.int w1), (.int w2), (.int w3), (.int w4), (.int w5), (.int w6), (.int w7)] (.int (0 : Int32))) (hv : w5 = ((q4 >>> ((40 : Int32) &&& 0x3f).toInt64).toInt32.toInt8.toInt32)) :
    MetFree l y_1 (head1 (Jvm.Cond.code y_1 method_2_code 5 (some .boolean) :: ws) ({ frames := 0, cells := 0, slots := 0, locals := 0 } : Room)) (fun a U => a = #[(.ref a1), (.int (5 : Int32)), (.int (0 : Int32)), (.long q4)] ∧ Z.Warmed39 U.vm ∧ U.heap = h0) (fun _ _ _ _ _ => True) (fun _ U o U' => ∃ v L, o = .returned v ∧ Q2_0_5 Z a1 q4 k1 w0 w1 w2 w3 w4 w5 w6 w7 h0 n0 v U'.heap L ∧ FrameEnd U o U' L ({ frames := 0, cells := 0, slots := 0, locals := 0 } : Room).cells ({ frames := 0, cells := 0, slots := 0, locals := 0 } : Room).slots) := by
  refine MetFree.of_bodySF (plainFor_of_name pn_2_0_5) hisR ?_
  intro p e s m args below meth c s₁ Bd hml0 hP hK
  obtain ⟨rfl, hZ, hh⟩ := hP
  have hx := Bd.exec
  have hby := Bd.bytes
  have hml : c.maxLocals = 5 := hml0
  have hown : s.vm.findClass "com/example/glottis/glottis/audio/AudioPutPinLaw" = some m.cls := findClass_of_methodNamed Bd.named
  have hnm := (name_of_methodNamed Bd.named Bd.method).1
  have X0 : Stand p l e ({ frames := 0, cells := 0, slots := 0, locals := 0 } : Room) s m #[(.ref a1), (.int (5 : Int32)), (.int (0 : Int32)), (.long q4)] below meth c s₁ [] 0 0 := Stand.of_body Bd
  have e0 : s₁.heap = h0 := by rw [← hh, Bd.state]; rfl
  have N0 := Fr.nil n0
  obtain ⟨F0, hF0⟩ : ∃ F : JFrame, F = entryFrame m #[(.ref a1), (.int (5 : Int32)), (.int (0 : Int32)), (.long q4)] 5 := ⟨_, rfl⟩
  have pre0 : ∀ t, Steps p.tables e below (s₁.setTop F0) t → Steps p.tables e below (s₁.setTop (entryFrame m #[(.ref a1), (.int (5 : Int32)), (.int (0 : Int32)), (.long q4)] 5)) t := fun t k => hF0 ▸ k
  have go0 : Go p e below s₁ F0 s₁ (mkF m 0 #[vr a1, vi (5 : Int32), vi (0 : Int32), vj q4, .second] []) := fun t k => castTop (hF0.trans (ef_2_0_5 m a1 q4)) k
  have go1 : Go p e below s₁ F0 s₁ (mkF m 9 #[vr a1, vi (5 : Int32), vi (0 : Int32), vj q4, .second] [(.int (5 : Int32)), (.ref a1)]) := by
    intro t kt
    refine go0 t ?_
    refine o_iloadN X0 hx (hb hby d2_0) rfl ?_
    refine o_iconst X0 hx (hb hby d2_1) (v := 1) rfl ?_
    refine o_ishrE X0 hx (hb hby d2_2) (v := 2) rfl ?_
    refine o_iloadN X0 hx (hb hby d2_3) rfl ?_
    refine o_icmpNo X0 hx (hb hby d2_4) (feq (by decide : ¬ ((2 : Int32) = (0 : Int32)))).1 ?_
    refine o_aloadN X0 hx (hb hby d2_7) rfl rfl ?_
    refine o_iloadN X0 hx (hb hby d2_8) rfl ?_
    exact kt
  obtain ⟨cl2, Ar2, -, Sz2, Nn2, Hs2, -⟩ := id V0
  have hin2 : ¬ ((5 : Int32) < 0 ∨ cl2.slots.size ≤ ((5 : Int32)).toNatClampNeg) := inb_of Sz2 ⟨by decide, by decide⟩
  have hat2 : cl2.slots[((5 : Int32)).toNatClampNeg]? = some (.int w5) := Hs2.at hin2 rfl
  have go4 : Go p e below s₁ F0 s₁ (mkF m 18 #[vr a1, vi (5 : Int32), vi (0 : Int32), vj q4, .second] [(.int (((q4 >>> ((40 : Int32) &&& 0x3f).toInt64).toInt32).toInt8.toInt32)), (.int w5)]) := by
    intro t kt
    refine go1 t ?_
    refine o_baload X0 hx hZ e0 Ar2 hin2 hat2 (hb hby d2_9) ?_
    refine o_lloadN X0 hx (hb hby d2_10) rfl ?_
    refine o_bipush X0 hx (hb hby d2_11) (v := 8) rfl ?_
    refine o_iloadN X0 hx (hb hby d2_13) rfl ?_
    refine o_imulE X0 hx (hb hby d2_14) (v := 40) rfl ?_
    refine o_lshr X0 hx (hb hby d2_15) ?_
    refine o_l2i X0 hx (hb hby d2_16) ?_
    refine o_i2b X0 hx (hb hby d2_17) ?_
    exact kt
  have hd3 : w5 = (((q4 >>> ((40 : Int32) &&& 0x3f).toInt64).toInt32).toInt8.toInt32) := hv
  have go5 : Go p e below s₁ F0 s₁ (mkF m 26 #[vr a1, vi (5 : Int32), vi (0 : Int32), vj q4, .second] [(.int (1 : Int32))]) := by
    intro t kt
    refine go4 t ?_
    refine o_icmpNo X0 hx (hb hby d2_18) (teq hd3).2 ?_
    refine o_iconst X0 hx (hb hby d2_21) (v := 1) rfl ?_
    refine o_goto X0 hx (hb hby d2_22) (pc' := 26) rfl (by decide) ?_
    exact kt
  obtain ⟨fs, hr, hrun, hended, hW, hsame⟩ := X0.leave (v := some (.int (1 : Int32))) (fun h => by rw [Bd.returns] at h; cases h)
  refine ⟨_, _, pre0 _ (go5 _ ?_), hrun, hended, _, _, rfl, ?_, ⟨_, rfl⟩, hW, hsame.mono (by decide) (by decide)⟩
  · skip
    exact retN X0 hx (t := .boolean) Bd.returns (by simp) (hb hby d2_26) hr
  · show Q2_0_5 Z a1 q4 k1 w0 w1 w2 w3 w4 w5 w6 w7 h0 n0 _ s₁.heap _
    rw [e0]
    exact ⟨rfl, N0, rfl⟩

theorem pn_2_0_6 : plainName "com/example/glottis/glottis/audio/AudioPutPinLaw" = true := by first | (simp [plainName, overriddenIn]; done) | decide +kernel
theorem ef_2_0_6 (m : MethodId) (x0 : Addr) (x3 : Int64) : entryFrame m #[(.ref x0), (.int (6 : Int32)), (.int (0 : Int32)), (.long x3)] 5 = mkF m 0 #[vr x0, vi (6 : Int32), vi (0 : Int32), vj x3, .second] [] := by first | (simp [entryFrame, mkF, argsToLocals, Value.category]; done) | rfl
def Q2_0_6 (Z : State) (a1 : Addr) (q4 : Int64) (k1 : ClassId) (w0 : Int32) (w1 : Int32) (w2 : Int32) (w3 : Int32) (w4 : Int32) (w5 : Int32) (w6 : Int32) (w7 : Int32) (h0 : Heap) (n0 : Nat) (v : Option Value) (h : Heap) (L : List Loc) : Prop := v = some (.int (1 : Int32)) ∧ Fr n0 L ∧ h = h0
set_option maxRecDepth 65536 in
set_option maxHeartbeats 40000000 in
theorem rm2_0_6 (l : Launch) (Z : State) (a0 : Array Value) (hw : ∀ d ∈ tables_1, d.before a0 Z = true) (ws : List Jvm.Cond) (a1 : Addr) (q4 : Int64) (k1 : ClassId) (w0 : Int32) (w1 : Int32) (w2 : Int32) (w3 : Int32) (w4 : Int32) (w5 : Int32) (w6 : Int32) (w7 : Int32) (h0 : Heap) (n0 : Nat) (Z0 : n0 ≤ h0.size) (V0 : Arv Z h0 a1 k1 .byte (8 : Int32) [(.int w0), (.int w1), (.int w2), (.int w3), (.int w4), (.int w5), (.int w6), (.int w7)] (.int (0 : Int32))) (hv : w6 = ((q4 >>> ((48 : Int32) &&& 0x3f).toInt64).toInt32.toInt8.toInt32)) :
    MetFree l y_1 (head1 (Jvm.Cond.code y_1 method_2_code 5 (some .boolean) :: ws) ({ frames := 0, cells := 0, slots := 0, locals := 0 } : Room)) (fun a U => a = #[(.ref a1), (.int (6 : Int32)), (.int (0 : Int32)), (.long q4)] ∧ Z.Warmed39 U.vm ∧ U.heap = h0) (fun _ _ _ _ _ => True) (fun _ U o U' => ∃ v L, o = .returned v ∧ Q2_0_6 Z a1 q4 k1 w0 w1 w2 w3 w4 w5 w6 w7 h0 n0 v U'.heap L ∧ FrameEnd U o U' L ({ frames := 0, cells := 0, slots := 0, locals := 0 } : Room).cells ({ frames := 0, cells := 0, slots := 0, locals := 0 } : Room).slots) := by
  refine MetFree.of_bodySF (plainFor_of_name pn_2_0_6) hisR ?_
  intro p e s m args below meth c s₁ Bd hml0 hP hK
  obtain ⟨rfl, hZ, hh⟩ := hP
  have hx := Bd.exec
  have hby := Bd.bytes
  have hml : c.maxLocals = 5 := hml0
  have hown : s.vm.findClass "com/example/glottis/glottis/audio/AudioPutPinLaw" = some m.cls := findClass_of_methodNamed Bd.named
  have hnm := (name_of_methodNamed Bd.named Bd.method).1
  have X0 : Stand p l e ({ frames := 0, cells := 0, slots := 0, locals := 0 } : Room) s m #[(.ref a1), (.int (6 : Int32)), (.int (0 : Int32)), (.long q4)] below meth c s₁ [] 0 0 := Stand.of_body Bd
  have e0 : s₁.heap = h0 := by rw [← hh, Bd.state]; rfl
  have N0 := Fr.nil n0
  obtain ⟨F0, hF0⟩ : ∃ F : JFrame, F = entryFrame m #[(.ref a1), (.int (6 : Int32)), (.int (0 : Int32)), (.long q4)] 5 := ⟨_, rfl⟩
  have pre0 : ∀ t, Steps p.tables e below (s₁.setTop F0) t → Steps p.tables e below (s₁.setTop (entryFrame m #[(.ref a1), (.int (6 : Int32)), (.int (0 : Int32)), (.long q4)] 5)) t := fun t k => hF0 ▸ k
  have go0 : Go p e below s₁ F0 s₁ (mkF m 0 #[vr a1, vi (6 : Int32), vi (0 : Int32), vj q4, .second] []) := fun t k => castTop (hF0.trans (ef_2_0_6 m a1 q4)) k
  have go1 : Go p e below s₁ F0 s₁ (mkF m 9 #[vr a1, vi (6 : Int32), vi (0 : Int32), vj q4, .second] [(.int (6 : Int32)), (.ref a1)]) := by
    intro t kt
    refine go0 t ?_
    refine o_iloadN X0 hx (hb hby d2_0) rfl ?_
    refine o_iconst X0 hx (hb hby d2_1) (v := 1) rfl ?_
    refine o_ishrE X0 hx (hb hby d2_2) (v := 3) rfl ?_
    refine o_iloadN X0 hx (hb hby d2_3) rfl ?_
    refine o_icmpNo X0 hx (hb hby d2_4) (feq (by decide : ¬ ((3 : Int32) = (0 : Int32)))).1 ?_
    refine o_aloadN X0 hx (hb hby d2_7) rfl rfl ?_
    refine o_iloadN X0 hx (hb hby d2_8) rfl ?_
    exact kt
  obtain ⟨cl2, Ar2, -, Sz2, Nn2, Hs2, -⟩ := id V0
  have hin2 : ¬ ((6 : Int32) < 0 ∨ cl2.slots.size ≤ ((6 : Int32)).toNatClampNeg) := inb_of Sz2 ⟨by decide, by decide⟩
  have hat2 : cl2.slots[((6 : Int32)).toNatClampNeg]? = some (.int w6) := Hs2.at hin2 rfl
  have go4 : Go p e below s₁ F0 s₁ (mkF m 18 #[vr a1, vi (6 : Int32), vi (0 : Int32), vj q4, .second] [(.int (((q4 >>> ((48 : Int32) &&& 0x3f).toInt64).toInt32).toInt8.toInt32)), (.int w6)]) := by
    intro t kt
    refine go1 t ?_
    refine o_baload X0 hx hZ e0 Ar2 hin2 hat2 (hb hby d2_9) ?_
    refine o_lloadN X0 hx (hb hby d2_10) rfl ?_
    refine o_bipush X0 hx (hb hby d2_11) (v := 8) rfl ?_
    refine o_iloadN X0 hx (hb hby d2_13) rfl ?_
    refine o_imulE X0 hx (hb hby d2_14) (v := 48) rfl ?_
    refine o_lshr X0 hx (hb hby d2_15) ?_
    refine o_l2i X0 hx (hb hby d2_16) ?_
    refine o_i2b X0 hx (hb hby d2_17) ?_
    exact kt
  have hd3 : w6 = (((q4 >>> ((48 : Int32) &&& 0x3f).toInt64).toInt32).toInt8.toInt32) := hv
  have go5 : Go p e below s₁ F0 s₁ (mkF m 26 #[vr a1, vi (6 : Int32), vi (0 : Int32), vj q4, .second] [(.int (1 : Int32))]) := by
    intro t kt
    refine go4 t ?_
    refine o_icmpNo X0 hx (hb hby d2_18) (teq hd3).2 ?_
    refine o_iconst X0 hx (hb hby d2_21) (v := 1) rfl ?_
    refine o_goto X0 hx (hb hby d2_22) (pc' := 26) rfl (by decide) ?_
    exact kt
  obtain ⟨fs, hr, hrun, hended, hW, hsame⟩ := X0.leave (v := some (.int (1 : Int32))) (fun h => by rw [Bd.returns] at h; cases h)
  refine ⟨_, _, pre0 _ (go5 _ ?_), hrun, hended, _, _, rfl, ?_, ⟨_, rfl⟩, hW, hsame.mono (by decide) (by decide)⟩
  · skip
    exact retN X0 hx (t := .boolean) Bd.returns (by simp) (hb hby d2_26) hr
  · show Q2_0_6 Z a1 q4 k1 w0 w1 w2 w3 w4 w5 w6 w7 h0 n0 _ s₁.heap _
    rw [e0]
    exact ⟨rfl, N0, rfl⟩

theorem pn_2_0_7 : plainName "com/example/glottis/glottis/audio/AudioPutPinLaw" = true := by first | (simp [plainName, overriddenIn]; done) | decide +kernel
theorem ef_2_0_7 (m : MethodId) (x0 : Addr) (x3 : Int64) : entryFrame m #[(.ref x0), (.int (7 : Int32)), (.int (0 : Int32)), (.long x3)] 5 = mkF m 0 #[vr x0, vi (7 : Int32), vi (0 : Int32), vj x3, .second] [] := by first | (simp [entryFrame, mkF, argsToLocals, Value.category]; done) | rfl
def Q2_0_7 (Z : State) (a1 : Addr) (q4 : Int64) (k1 : ClassId) (w0 : Int32) (w1 : Int32) (w2 : Int32) (w3 : Int32) (w4 : Int32) (w5 : Int32) (w6 : Int32) (w7 : Int32) (h0 : Heap) (n0 : Nat) (v : Option Value) (h : Heap) (L : List Loc) : Prop := v = some (.int (1 : Int32)) ∧ Fr n0 L ∧ h = h0
set_option maxRecDepth 65536 in
set_option maxHeartbeats 40000000 in
theorem rm2_0_7 (l : Launch) (Z : State) (a0 : Array Value) (hw : ∀ d ∈ tables_1, d.before a0 Z = true) (ws : List Jvm.Cond) (a1 : Addr) (q4 : Int64) (k1 : ClassId) (w0 : Int32) (w1 : Int32) (w2 : Int32) (w3 : Int32) (w4 : Int32) (w5 : Int32) (w6 : Int32) (w7 : Int32) (h0 : Heap) (n0 : Nat) (Z0 : n0 ≤ h0.size) (V0 : Arv Z h0 a1 k1 .byte (8 : Int32) [(.int w0), (.int w1), (.int w2), (.int w3), (.int w4), (.int w5), (.int w6), (.int w7)] (.int (0 : Int32))) (hv : w7 = ((q4 >>> ((56 : Int32) &&& 0x3f).toInt64).toInt32.toInt8.toInt32)) :
    MetFree l y_1 (head1 (Jvm.Cond.code y_1 method_2_code 5 (some .boolean) :: ws) ({ frames := 0, cells := 0, slots := 0, locals := 0 } : Room)) (fun a U => a = #[(.ref a1), (.int (7 : Int32)), (.int (0 : Int32)), (.long q4)] ∧ Z.Warmed39 U.vm ∧ U.heap = h0) (fun _ _ _ _ _ => True) (fun _ U o U' => ∃ v L, o = .returned v ∧ Q2_0_7 Z a1 q4 k1 w0 w1 w2 w3 w4 w5 w6 w7 h0 n0 v U'.heap L ∧ FrameEnd U o U' L ({ frames := 0, cells := 0, slots := 0, locals := 0 } : Room).cells ({ frames := 0, cells := 0, slots := 0, locals := 0 } : Room).slots) := by
  refine MetFree.of_bodySF (plainFor_of_name pn_2_0_7) hisR ?_
  intro p e s m args below meth c s₁ Bd hml0 hP hK
  obtain ⟨rfl, hZ, hh⟩ := hP
  have hx := Bd.exec
  have hby := Bd.bytes
  have hml : c.maxLocals = 5 := hml0
  have hown : s.vm.findClass "com/example/glottis/glottis/audio/AudioPutPinLaw" = some m.cls := findClass_of_methodNamed Bd.named
  have hnm := (name_of_methodNamed Bd.named Bd.method).1
  have X0 : Stand p l e ({ frames := 0, cells := 0, slots := 0, locals := 0 } : Room) s m #[(.ref a1), (.int (7 : Int32)), (.int (0 : Int32)), (.long q4)] below meth c s₁ [] 0 0 := Stand.of_body Bd
  have e0 : s₁.heap = h0 := by rw [← hh, Bd.state]; rfl
  have N0 := Fr.nil n0
  obtain ⟨F0, hF0⟩ : ∃ F : JFrame, F = entryFrame m #[(.ref a1), (.int (7 : Int32)), (.int (0 : Int32)), (.long q4)] 5 := ⟨_, rfl⟩
  have pre0 : ∀ t, Steps p.tables e below (s₁.setTop F0) t → Steps p.tables e below (s₁.setTop (entryFrame m #[(.ref a1), (.int (7 : Int32)), (.int (0 : Int32)), (.long q4)] 5)) t := fun t k => hF0 ▸ k
  have go0 : Go p e below s₁ F0 s₁ (mkF m 0 #[vr a1, vi (7 : Int32), vi (0 : Int32), vj q4, .second] []) := fun t k => castTop (hF0.trans (ef_2_0_7 m a1 q4)) k
  have go1 : Go p e below s₁ F0 s₁ (mkF m 9 #[vr a1, vi (7 : Int32), vi (0 : Int32), vj q4, .second] [(.int (7 : Int32)), (.ref a1)]) := by
    intro t kt
    refine go0 t ?_
    refine o_iloadN X0 hx (hb hby d2_0) rfl ?_
    refine o_iconst X0 hx (hb hby d2_1) (v := 1) rfl ?_
    refine o_ishrE X0 hx (hb hby d2_2) (v := 3) rfl ?_
    refine o_iloadN X0 hx (hb hby d2_3) rfl ?_
    refine o_icmpNo X0 hx (hb hby d2_4) (feq (by decide : ¬ ((3 : Int32) = (0 : Int32)))).1 ?_
    refine o_aloadN X0 hx (hb hby d2_7) rfl rfl ?_
    refine o_iloadN X0 hx (hb hby d2_8) rfl ?_
    exact kt
  obtain ⟨cl2, Ar2, -, Sz2, Nn2, Hs2, -⟩ := id V0
  have hin2 : ¬ ((7 : Int32) < 0 ∨ cl2.slots.size ≤ ((7 : Int32)).toNatClampNeg) := inb_of Sz2 ⟨by decide, by decide⟩
  have hat2 : cl2.slots[((7 : Int32)).toNatClampNeg]? = some (.int w7) := Hs2.at hin2 rfl
  have go4 : Go p e below s₁ F0 s₁ (mkF m 18 #[vr a1, vi (7 : Int32), vi (0 : Int32), vj q4, .second] [(.int (((q4 >>> ((56 : Int32) &&& 0x3f).toInt64).toInt32).toInt8.toInt32)), (.int w7)]) := by
    intro t kt
    refine go1 t ?_
    refine o_baload X0 hx hZ e0 Ar2 hin2 hat2 (hb hby d2_9) ?_
    refine o_lloadN X0 hx (hb hby d2_10) rfl ?_
    refine o_bipush X0 hx (hb hby d2_11) (v := 8) rfl ?_
    refine o_iloadN X0 hx (hb hby d2_13) rfl ?_
    refine o_imulE X0 hx (hb hby d2_14) (v := 56) rfl ?_
    refine o_lshr X0 hx (hb hby d2_15) ?_
    refine o_l2i X0 hx (hb hby d2_16) ?_
    refine o_i2b X0 hx (hb hby d2_17) ?_
    exact kt
  have hd3 : w7 = (((q4 >>> ((56 : Int32) &&& 0x3f).toInt64).toInt32).toInt8.toInt32) := hv
  have go5 : Go p e below s₁ F0 s₁ (mkF m 26 #[vr a1, vi (7 : Int32), vi (0 : Int32), vj q4, .second] [(.int (1 : Int32))]) := by
    intro t kt
    refine go4 t ?_
    refine o_icmpNo X0 hx (hb hby d2_18) (teq hd3).2 ?_
    refine o_iconst X0 hx (hb hby d2_21) (v := 1) rfl ?_
    refine o_goto X0 hx (hb hby d2_22) (pc' := 26) rfl (by decide) ?_
    exact kt
  obtain ⟨fs, hr, hrun, hended, hW, hsame⟩ := X0.leave (v := some (.int (1 : Int32))) (fun h => by rw [Bd.returns] at h; cases h)
  refine ⟨_, _, pre0 _ (go5 _ ?_), hrun, hended, _, _, rfl, ?_, ⟨_, rfl⟩, hW, hsame.mono (by decide) (by decide)⟩
  · skip
    exact retN X0 hx (t := .boolean) Bd.returns (by simp) (hb hby d2_26) hr
  · show Q2_0_7 Z a1 q4 k1 w0 w1 w2 w3 w4 w5 w6 w7 h0 n0 _ s₁.heap _
    rw [e0]
    exact ⟨rfl, N0, rfl⟩

theorem pn_2_1_0 : plainName "com/example/glottis/glottis/audio/AudioPutPinLaw" = true := by first | (simp [plainName, overriddenIn]; done) | decide +kernel
theorem ef_2_1_0 (m : MethodId) (x0 : Addr) (x3 : Int64) : entryFrame m #[(.ref x0), (.int (0 : Int32)), (.int (1 : Int32)), (.long x3)] 5 = mkF m 0 #[vr x0, vi (0 : Int32), vi (1 : Int32), vj x3, .second] [] := by first | (simp [entryFrame, mkF, argsToLocals, Value.category]; done) | rfl
def Q2_1_0 (Z : State) (a1 : Addr) (q4 : Int64) (k1 : ClassId) (w0 : Int32) (w1 : Int32) (w2 : Int32) (w3 : Int32) (w4 : Int32) (w5 : Int32) (w6 : Int32) (w7 : Int32) (h0 : Heap) (n0 : Nat) (v : Option Value) (h : Heap) (L : List Loc) : Prop := v = some (.int (1 : Int32)) ∧ Fr n0 L ∧ h = h0
set_option maxRecDepth 65536 in
set_option maxHeartbeats 40000000 in
theorem rm2_1_0 (l : Launch) (Z : State) (a0 : Array Value) (hw : ∀ d ∈ tables_1, d.before a0 Z = true) (ws : List Jvm.Cond) (a1 : Addr) (q4 : Int64) (k1 : ClassId) (w0 : Int32) (w1 : Int32) (w2 : Int32) (w3 : Int32) (w4 : Int32) (w5 : Int32) (w6 : Int32) (w7 : Int32) (h0 : Heap) (n0 : Nat) (Z0 : n0 ≤ h0.size) (V0 : Arv Z h0 a1 k1 .byte (8 : Int32) [(.int w0), (.int w1), (.int w2), (.int w3), (.int w4), (.int w5), (.int w6), (.int w7)] (.int (0 : Int32))) (hv : w0 = ((q4 >>> ((0 : Int32) &&& 0x3f).toInt64).toInt32.toInt8.toInt32)) :
    MetFree l y_1 (head1 (Jvm.Cond.code y_1 method_2_code 5 (some .boolean) :: ws) ({ frames := 0, cells := 0, slots := 0, locals := 0 } : Room)) (fun a U => a = #[(.ref a1), (.int (0 : Int32)), (.int (1 : Int32)), (.long q4)] ∧ Z.Warmed39 U.vm ∧ U.heap = h0) (fun _ _ _ _ _ => True) (fun _ U o U' => ∃ v L, o = .returned v ∧ Q2_1_0 Z a1 q4 k1 w0 w1 w2 w3 w4 w5 w6 w7 h0 n0 v U'.heap L ∧ FrameEnd U o U' L ({ frames := 0, cells := 0, slots := 0, locals := 0 } : Room).cells ({ frames := 0, cells := 0, slots := 0, locals := 0 } : Room).slots) := by
  refine MetFree.of_bodySF (plainFor_of_name pn_2_1_0) hisR ?_
  intro p e s m args below meth c s₁ Bd hml0 hP hK
  obtain ⟨rfl, hZ, hh⟩ := hP
  have hx := Bd.exec
  have hby := Bd.bytes
  have hml : c.maxLocals = 5 := hml0
  have hown : s.vm.findClass "com/example/glottis/glottis/audio/AudioPutPinLaw" = some m.cls := findClass_of_methodNamed Bd.named
  have hnm := (name_of_methodNamed Bd.named Bd.method).1
  have X0 : Stand p l e ({ frames := 0, cells := 0, slots := 0, locals := 0 } : Room) s m #[(.ref a1), (.int (0 : Int32)), (.int (1 : Int32)), (.long q4)] below meth c s₁ [] 0 0 := Stand.of_body Bd
  have e0 : s₁.heap = h0 := by rw [← hh, Bd.state]; rfl
  have N0 := Fr.nil n0
  obtain ⟨F0, hF0⟩ : ∃ F : JFrame, F = entryFrame m #[(.ref a1), (.int (0 : Int32)), (.int (1 : Int32)), (.long q4)] 5 := ⟨_, rfl⟩
  have pre0 : ∀ t, Steps p.tables e below (s₁.setTop F0) t → Steps p.tables e below (s₁.setTop (entryFrame m #[(.ref a1), (.int (0 : Int32)), (.int (1 : Int32)), (.long q4)] 5)) t := fun t k => hF0 ▸ k
  have go0 : Go p e below s₁ F0 s₁ (mkF m 0 #[vr a1, vi (0 : Int32), vi (1 : Int32), vj q4, .second] []) := fun t k => castTop (hF0.trans (ef_2_1_0 m a1 q4)) k
  have go1 : Go p e below s₁ F0 s₁ (mkF m 9 #[vr a1, vi (0 : Int32), vi (1 : Int32), vj q4, .second] [(.int (0 : Int32)), (.ref a1)]) := by
    intro t kt
    refine go0 t ?_
    refine o_iloadN X0 hx (hb hby d2_0) rfl ?_
    refine o_iconst X0 hx (hb hby d2_1) (v := 1) rfl ?_
    refine o_ishrE X0 hx (hb hby d2_2) (v := 0) rfl ?_
    refine o_iloadN X0 hx (hb hby d2_3) rfl ?_
    refine o_icmpNo X0 hx (hb hby d2_4) (feq (by decide : ¬ ((0 : Int32) = (1 : Int32)))).1 ?_
    refine o_aloadN X0 hx (hb hby d2_7) rfl rfl ?_
    refine o_iloadN X0 hx (hb hby d2_8) rfl ?_
    exact kt
  obtain ⟨cl2, Ar2, -, Sz2, Nn2, Hs2, -⟩ := id V0
  have hin2 : ¬ ((0 : Int32) < 0 ∨ cl2.slots.size ≤ ((0 : Int32)).toNatClampNeg) := inb_of Sz2 ⟨by decide, by decide⟩
  have hat2 : cl2.slots[((0 : Int32)).toNatClampNeg]? = some (.int w0) := Hs2.at hin2 rfl
  have go4 : Go p e below s₁ F0 s₁ (mkF m 18 #[vr a1, vi (0 : Int32), vi (1 : Int32), vj q4, .second] [(.int (((q4 >>> ((0 : Int32) &&& 0x3f).toInt64).toInt32).toInt8.toInt32)), (.int w0)]) := by
    intro t kt
    refine go1 t ?_
    refine o_baload X0 hx hZ e0 Ar2 hin2 hat2 (hb hby d2_9) ?_
    refine o_lloadN X0 hx (hb hby d2_10) rfl ?_
    refine o_bipush X0 hx (hb hby d2_11) (v := 8) rfl ?_
    refine o_iloadN X0 hx (hb hby d2_13) rfl ?_
    refine o_imulE X0 hx (hb hby d2_14) (v := 0) rfl ?_
    refine o_lshr X0 hx (hb hby d2_15) ?_
    refine o_l2i X0 hx (hb hby d2_16) ?_
    refine o_i2b X0 hx (hb hby d2_17) ?_
    exact kt
  have hd3 : w0 = (((q4 >>> ((0 : Int32) &&& 0x3f).toInt64).toInt32).toInt8.toInt32) := hv
  have go5 : Go p e below s₁ F0 s₁ (mkF m 26 #[vr a1, vi (0 : Int32), vi (1 : Int32), vj q4, .second] [(.int (1 : Int32))]) := by
    intro t kt
    refine go4 t ?_
    refine o_icmpNo X0 hx (hb hby d2_18) (teq hd3).2 ?_
    refine o_iconst X0 hx (hb hby d2_21) (v := 1) rfl ?_
    refine o_goto X0 hx (hb hby d2_22) (pc' := 26) rfl (by decide) ?_
    exact kt
  obtain ⟨fs, hr, hrun, hended, hW, hsame⟩ := X0.leave (v := some (.int (1 : Int32))) (fun h => by rw [Bd.returns] at h; cases h)
  refine ⟨_, _, pre0 _ (go5 _ ?_), hrun, hended, _, _, rfl, ?_, ⟨_, rfl⟩, hW, hsame.mono (by decide) (by decide)⟩
  · skip
    exact retN X0 hx (t := .boolean) Bd.returns (by simp) (hb hby d2_26) hr
  · show Q2_1_0 Z a1 q4 k1 w0 w1 w2 w3 w4 w5 w6 w7 h0 n0 _ s₁.heap _
    rw [e0]
    exact ⟨rfl, N0, rfl⟩

theorem pn_2_1_1 : plainName "com/example/glottis/glottis/audio/AudioPutPinLaw" = true := by first | (simp [plainName, overriddenIn]; done) | decide +kernel
theorem ef_2_1_1 (m : MethodId) (x0 : Addr) (x3 : Int64) : entryFrame m #[(.ref x0), (.int (1 : Int32)), (.int (1 : Int32)), (.long x3)] 5 = mkF m 0 #[vr x0, vi (1 : Int32), vi (1 : Int32), vj x3, .second] [] := by first | (simp [entryFrame, mkF, argsToLocals, Value.category]; done) | rfl
def Q2_1_1 (Z : State) (a1 : Addr) (q4 : Int64) (k1 : ClassId) (w0 : Int32) (w1 : Int32) (w2 : Int32) (w3 : Int32) (w4 : Int32) (w5 : Int32) (w6 : Int32) (w7 : Int32) (h0 : Heap) (n0 : Nat) (v : Option Value) (h : Heap) (L : List Loc) : Prop := v = some (.int (1 : Int32)) ∧ Fr n0 L ∧ h = h0
set_option maxRecDepth 65536 in
set_option maxHeartbeats 40000000 in
theorem rm2_1_1 (l : Launch) (Z : State) (a0 : Array Value) (hw : ∀ d ∈ tables_1, d.before a0 Z = true) (ws : List Jvm.Cond) (a1 : Addr) (q4 : Int64) (k1 : ClassId) (w0 : Int32) (w1 : Int32) (w2 : Int32) (w3 : Int32) (w4 : Int32) (w5 : Int32) (w6 : Int32) (w7 : Int32) (h0 : Heap) (n0 : Nat) (Z0 : n0 ≤ h0.size) (V0 : Arv Z h0 a1 k1 .byte (8 : Int32) [(.int w0), (.int w1), (.int w2), (.int w3), (.int w4), (.int w5), (.int w6), (.int w7)] (.int (0 : Int32))) (hv : w1 = ((q4 >>> ((8 : Int32) &&& 0x3f).toInt64).toInt32.toInt8.toInt32)) :
    MetFree l y_1 (head1 (Jvm.Cond.code y_1 method_2_code 5 (some .boolean) :: ws) ({ frames := 0, cells := 0, slots := 0, locals := 0 } : Room)) (fun a U => a = #[(.ref a1), (.int (1 : Int32)), (.int (1 : Int32)), (.long q4)] ∧ Z.Warmed39 U.vm ∧ U.heap = h0) (fun _ _ _ _ _ => True) (fun _ U o U' => ∃ v L, o = .returned v ∧ Q2_1_1 Z a1 q4 k1 w0 w1 w2 w3 w4 w5 w6 w7 h0 n0 v U'.heap L ∧ FrameEnd U o U' L ({ frames := 0, cells := 0, slots := 0, locals := 0 } : Room).cells ({ frames := 0, cells := 0, slots := 0, locals := 0 } : Room).slots) := by
  refine MetFree.of_bodySF (plainFor_of_name pn_2_1_1) hisR ?_
  intro p e s m args below meth c s₁ Bd hml0 hP hK
  obtain ⟨rfl, hZ, hh⟩ := hP
  have hx := Bd.exec
  have hby := Bd.bytes
  have hml : c.maxLocals = 5 := hml0
  have hown : s.vm.findClass "com/example/glottis/glottis/audio/AudioPutPinLaw" = some m.cls := findClass_of_methodNamed Bd.named
  have hnm := (name_of_methodNamed Bd.named Bd.method).1
  have X0 : Stand p l e ({ frames := 0, cells := 0, slots := 0, locals := 0 } : Room) s m #[(.ref a1), (.int (1 : Int32)), (.int (1 : Int32)), (.long q4)] below meth c s₁ [] 0 0 := Stand.of_body Bd
  have e0 : s₁.heap = h0 := by rw [← hh, Bd.state]; rfl
  have N0 := Fr.nil n0
  obtain ⟨F0, hF0⟩ : ∃ F : JFrame, F = entryFrame m #[(.ref a1), (.int (1 : Int32)), (.int (1 : Int32)), (.long q4)] 5 := ⟨_, rfl⟩
  have pre0 : ∀ t, Steps p.tables e below (s₁.setTop F0) t → Steps p.tables e below (s₁.setTop (entryFrame m #[(.ref a1), (.int (1 : Int32)), (.int (1 : Int32)), (.long q4)] 5)) t := fun t k => hF0 ▸ k
  have go0 : Go p e below s₁ F0 s₁ (mkF m 0 #[vr a1, vi (1 : Int32), vi (1 : Int32), vj q4, .second] []) := fun t k => castTop (hF0.trans (ef_2_1_1 m a1 q4)) k
  have go1 : Go p e below s₁ F0 s₁ (mkF m 9 #[vr a1, vi (1 : Int32), vi (1 : Int32), vj q4, .second] [(.int (1 : Int32)), (.ref a1)]) := by
    intro t kt
    refine go0 t ?_
    refine o_iloadN X0 hx (hb hby d2_0) rfl ?_
    refine o_iconst X0 hx (hb hby d2_1) (v := 1) rfl ?_
    refine o_ishrE X0 hx (hb hby d2_2) (v := 0) rfl ?_
    refine o_iloadN X0 hx (hb hby d2_3) rfl ?_
    refine o_icmpNo X0 hx (hb hby d2_4) (feq (by decide : ¬ ((0 : Int32) = (1 : Int32)))).1 ?_
    refine o_aloadN X0 hx (hb hby d2_7) rfl rfl ?_
    refine o_iloadN X0 hx (hb hby d2_8) rfl ?_
    exact kt
  obtain ⟨cl2, Ar2, -, Sz2, Nn2, Hs2, -⟩ := id V0
  have hin2 : ¬ ((1 : Int32) < 0 ∨ cl2.slots.size ≤ ((1 : Int32)).toNatClampNeg) := inb_of Sz2 ⟨by decide, by decide⟩
  have hat2 : cl2.slots[((1 : Int32)).toNatClampNeg]? = some (.int w1) := Hs2.at hin2 rfl
  have go4 : Go p e below s₁ F0 s₁ (mkF m 18 #[vr a1, vi (1 : Int32), vi (1 : Int32), vj q4, .second] [(.int (((q4 >>> ((8 : Int32) &&& 0x3f).toInt64).toInt32).toInt8.toInt32)), (.int w1)]) := by
    intro t kt
    refine go1 t ?_
    refine o_baload X0 hx hZ e0 Ar2 hin2 hat2 (hb hby d2_9) ?_
    refine o_lloadN X0 hx (hb hby d2_10) rfl ?_
    refine o_bipush X0 hx (hb hby d2_11) (v := 8) rfl ?_
    refine o_iloadN X0 hx (hb hby d2_13) rfl ?_
    refine o_imulE X0 hx (hb hby d2_14) (v := 8) rfl ?_
    refine o_lshr X0 hx (hb hby d2_15) ?_
    refine o_l2i X0 hx (hb hby d2_16) ?_
    refine o_i2b X0 hx (hb hby d2_17) ?_
    exact kt
  have hd3 : w1 = (((q4 >>> ((8 : Int32) &&& 0x3f).toInt64).toInt32).toInt8.toInt32) := hv
  have go5 : Go p e below s₁ F0 s₁ (mkF m 26 #[vr a1, vi (1 : Int32), vi (1 : Int32), vj q4, .second] [(.int (1 : Int32))]) := by
    intro t kt
    refine go4 t ?_
    refine o_icmpNo X0 hx (hb hby d2_18) (teq hd3).2 ?_
    refine o_iconst X0 hx (hb hby d2_21) (v := 1) rfl ?_
    refine o_goto X0 hx (hb hby d2_22) (pc' := 26) rfl (by decide) ?_
    exact kt
  obtain ⟨fs, hr, hrun, hended, hW, hsame⟩ := X0.leave (v := some (.int (1 : Int32))) (fun h => by rw [Bd.returns] at h; cases h)
  refine ⟨_, _, pre0 _ (go5 _ ?_), hrun, hended, _, _, rfl, ?_, ⟨_, rfl⟩, hW, hsame.mono (by decide) (by decide)⟩
  · skip
    exact retN X0 hx (t := .boolean) Bd.returns (by simp) (hb hby d2_26) hr
  · show Q2_1_1 Z a1 q4 k1 w0 w1 w2 w3 w4 w5 w6 w7 h0 n0 _ s₁.heap _
    rw [e0]
    exact ⟨rfl, N0, rfl⟩

theorem pn_2_1_2 : plainName "com/example/glottis/glottis/audio/AudioPutPinLaw" = true := by first | (simp [plainName, overriddenIn]; done) | decide +kernel
theorem ef_2_1_2 (m : MethodId) (x0 : Addr) (x3 : Int64) : entryFrame m #[(.ref x0), (.int (2 : Int32)), (.int (1 : Int32)), (.long x3)] 5 = mkF m 0 #[vr x0, vi (2 : Int32), vi (1 : Int32), vj x3, .second] [] := by first | (simp [entryFrame, mkF, argsToLocals, Value.category]; done) | rfl
def Q2_1_2 (Z : State) (a1 : Addr) (q4 : Int64) (k1 : ClassId) (w0 : Int32) (w1 : Int32) (w2 : Int32) (w3 : Int32) (w4 : Int32) (w5 : Int32) (w6 : Int32) (w7 : Int32) (h0 : Heap) (n0 : Nat) (v : Option Value) (h : Heap) (L : List Loc) : Prop := v = some (.int (1 : Int32)) ∧ Fr n0 L ∧ h = h0
set_option maxRecDepth 65536 in
set_option maxHeartbeats 40000000 in
theorem rm2_1_2 (l : Launch) (Z : State) (a0 : Array Value) (hw : ∀ d ∈ tables_1, d.before a0 Z = true) (ws : List Jvm.Cond) (a1 : Addr) (q4 : Int64) (k1 : ClassId) (w0 : Int32) (w1 : Int32) (w2 : Int32) (w3 : Int32) (w4 : Int32) (w5 : Int32) (w6 : Int32) (w7 : Int32) (h0 : Heap) (n0 : Nat) (Z0 : n0 ≤ h0.size) (V0 : Arv Z h0 a1 k1 .byte (8 : Int32) [(.int w0), (.int w1), (.int w2), (.int w3), (.int w4), (.int w5), (.int w6), (.int w7)] (.int (0 : Int32))) :
    MetFree l y_1 (head1 (Jvm.Cond.code y_1 method_2_code 5 (some .boolean) :: ws) ({ frames := 0, cells := 0, slots := 0, locals := 0 } : Room)) (fun a U => a = #[(.ref a1), (.int (2 : Int32)), (.int (1 : Int32)), (.long q4)] ∧ Z.Warmed39 U.vm ∧ U.heap = h0) (fun _ _ _ _ _ => True) (fun _ U o U' => ∃ v L, o = .returned v ∧ Q2_1_2 Z a1 q4 k1 w0 w1 w2 w3 w4 w5 w6 w7 h0 n0 v U'.heap L ∧ FrameEnd U o U' L ({ frames := 0, cells := 0, slots := 0, locals := 0 } : Room).cells ({ frames := 0, cells := 0, slots := 0, locals := 0 } : Room).slots) := by
  refine MetFree.of_bodySF (plainFor_of_name pn_2_1_2) hisR ?_
  intro p e s m args below meth c s₁ Bd hml0 hP hK
  obtain ⟨rfl, hZ, hh⟩ := hP
  have hx := Bd.exec
  have hby := Bd.bytes
  have hml : c.maxLocals = 5 := hml0
  have hown : s.vm.findClass "com/example/glottis/glottis/audio/AudioPutPinLaw" = some m.cls := findClass_of_methodNamed Bd.named
  have hnm := (name_of_methodNamed Bd.named Bd.method).1
  have X0 : Stand p l e ({ frames := 0, cells := 0, slots := 0, locals := 0 } : Room) s m #[(.ref a1), (.int (2 : Int32)), (.int (1 : Int32)), (.long q4)] below meth c s₁ [] 0 0 := Stand.of_body Bd
  have e0 : s₁.heap = h0 := by rw [← hh, Bd.state]; rfl
  have N0 := Fr.nil n0
  obtain ⟨F0, hF0⟩ : ∃ F : JFrame, F = entryFrame m #[(.ref a1), (.int (2 : Int32)), (.int (1 : Int32)), (.long q4)] 5 := ⟨_, rfl⟩
  have pre0 : ∀ t, Steps p.tables e below (s₁.setTop F0) t → Steps p.tables e below (s₁.setTop (entryFrame m #[(.ref a1), (.int (2 : Int32)), (.int (1 : Int32)), (.long q4)] 5)) t := fun t k => hF0 ▸ k
  have go0 : Go p e below s₁ F0 s₁ (mkF m 0 #[vr a1, vi (2 : Int32), vi (1 : Int32), vj q4, .second] []) := fun t k => castTop (hF0.trans (ef_2_1_2 m a1 q4)) k
  have go1 : Go p e below s₁ F0 s₁ (mkF m 26 #[vr a1, vi (2 : Int32), vi (1 : Int32), vj q4, .second] [(.int (1 : Int32))]) := by
    intro t kt
    refine go0 t ?_
    refine o_iloadN X0 hx (hb hby d2_0) rfl ?_
    refine o_iconst X0 hx (hb hby d2_1) (v := 1) rfl ?_
    refine o_ishrE X0 hx (hb hby d2_2) (v := 1) rfl ?_
    refine o_iloadN X0 hx (hb hby d2_3) rfl ?_
    refine o_icmpYes X0 hx (hb hby d2_4) (pc' := 21) rfl (by decide) (teq (by decide : (1 : Int32) = (1 : Int32))).1 ?_
    refine o_iconst X0 hx (hb hby d2_21) (v := 1) rfl ?_
    refine o_goto X0 hx (hb hby d2_22) (pc' := 26) rfl (by decide) ?_
    exact kt
  obtain ⟨fs, hr, hrun, hended, hW, hsame⟩ := X0.leave (v := some (.int (1 : Int32))) (fun h => by rw [Bd.returns] at h; cases h)
  refine ⟨_, _, pre0 _ (go1 _ ?_), hrun, hended, _, _, rfl, ?_, ⟨_, rfl⟩, hW, hsame.mono (by decide) (by decide)⟩
  · skip
    exact retN X0 hx (t := .boolean) Bd.returns (by simp) (hb hby d2_26) hr
  · show Q2_1_2 Z a1 q4 k1 w0 w1 w2 w3 w4 w5 w6 w7 h0 n0 _ s₁.heap _
    rw [e0]
    exact ⟨rfl, N0, rfl⟩

theorem pn_2_1_3 : plainName "com/example/glottis/glottis/audio/AudioPutPinLaw" = true := by first | (simp [plainName, overriddenIn]; done) | decide +kernel
theorem ef_2_1_3 (m : MethodId) (x0 : Addr) (x3 : Int64) : entryFrame m #[(.ref x0), (.int (3 : Int32)), (.int (1 : Int32)), (.long x3)] 5 = mkF m 0 #[vr x0, vi (3 : Int32), vi (1 : Int32), vj x3, .second] [] := by first | (simp [entryFrame, mkF, argsToLocals, Value.category]; done) | rfl
def Q2_1_3 (Z : State) (a1 : Addr) (q4 : Int64) (k1 : ClassId) (w0 : Int32) (w1 : Int32) (w2 : Int32) (w3 : Int32) (w4 : Int32) (w5 : Int32) (w6 : Int32) (w7 : Int32) (h0 : Heap) (n0 : Nat) (v : Option Value) (h : Heap) (L : List Loc) : Prop := v = some (.int (1 : Int32)) ∧ Fr n0 L ∧ h = h0
set_option maxRecDepth 65536 in
set_option maxHeartbeats 40000000 in
theorem rm2_1_3 (l : Launch) (Z : State) (a0 : Array Value) (hw : ∀ d ∈ tables_1, d.before a0 Z = true) (ws : List Jvm.Cond) (a1 : Addr) (q4 : Int64) (k1 : ClassId) (w0 : Int32) (w1 : Int32) (w2 : Int32) (w3 : Int32) (w4 : Int32) (w5 : Int32) (w6 : Int32) (w7 : Int32) (h0 : Heap) (n0 : Nat) (Z0 : n0 ≤ h0.size) (V0 : Arv Z h0 a1 k1 .byte (8 : Int32) [(.int w0), (.int w1), (.int w2), (.int w3), (.int w4), (.int w5), (.int w6), (.int w7)] (.int (0 : Int32))) :
    MetFree l y_1 (head1 (Jvm.Cond.code y_1 method_2_code 5 (some .boolean) :: ws) ({ frames := 0, cells := 0, slots := 0, locals := 0 } : Room)) (fun a U => a = #[(.ref a1), (.int (3 : Int32)), (.int (1 : Int32)), (.long q4)] ∧ Z.Warmed39 U.vm ∧ U.heap = h0) (fun _ _ _ _ _ => True) (fun _ U o U' => ∃ v L, o = .returned v ∧ Q2_1_3 Z a1 q4 k1 w0 w1 w2 w3 w4 w5 w6 w7 h0 n0 v U'.heap L ∧ FrameEnd U o U' L ({ frames := 0, cells := 0, slots := 0, locals := 0 } : Room).cells ({ frames := 0, cells := 0, slots := 0, locals := 0 } : Room).slots) := by
  refine MetFree.of_bodySF (plainFor_of_name pn_2_1_3) hisR ?_
  intro p e s m args below meth c s₁ Bd hml0 hP hK
  obtain ⟨rfl, hZ, hh⟩ := hP
  have hx := Bd.exec
  have hby := Bd.bytes
  have hml : c.maxLocals = 5 := hml0
  have hown : s.vm.findClass "com/example/glottis/glottis/audio/AudioPutPinLaw" = some m.cls := findClass_of_methodNamed Bd.named
  have hnm := (name_of_methodNamed Bd.named Bd.method).1
  have X0 : Stand p l e ({ frames := 0, cells := 0, slots := 0, locals := 0 } : Room) s m #[(.ref a1), (.int (3 : Int32)), (.int (1 : Int32)), (.long q4)] below meth c s₁ [] 0 0 := Stand.of_body Bd
  have e0 : s₁.heap = h0 := by rw [← hh, Bd.state]; rfl
  have N0 := Fr.nil n0
  obtain ⟨F0, hF0⟩ : ∃ F : JFrame, F = entryFrame m #[(.ref a1), (.int (3 : Int32)), (.int (1 : Int32)), (.long q4)] 5 := ⟨_, rfl⟩
  have pre0 : ∀ t, Steps p.tables e below (s₁.setTop F0) t → Steps p.tables e below (s₁.setTop (entryFrame m #[(.ref a1), (.int (3 : Int32)), (.int (1 : Int32)), (.long q4)] 5)) t := fun t k => hF0 ▸ k
  have go0 : Go p e below s₁ F0 s₁ (mkF m 0 #[vr a1, vi (3 : Int32), vi (1 : Int32), vj q4, .second] []) := fun t k => castTop (hF0.trans (ef_2_1_3 m a1 q4)) k
  have go1 : Go p e below s₁ F0 s₁ (mkF m 26 #[vr a1, vi (3 : Int32), vi (1 : Int32), vj q4, .second] [(.int (1 : Int32))]) := by
    intro t kt
    refine go0 t ?_
    refine o_iloadN X0 hx (hb hby d2_0) rfl ?_
    refine o_iconst X0 hx (hb hby d2_1) (v := 1) rfl ?_
    refine o_ishrE X0 hx (hb hby d2_2) (v := 1) rfl ?_
    refine o_iloadN X0 hx (hb hby d2_3) rfl ?_
    refine o_icmpYes X0 hx (hb hby d2_4) (pc' := 21) rfl (by decide) (teq (by decide : (1 : Int32) = (1 : Int32))).1 ?_
    refine o_iconst X0 hx (hb hby d2_21) (v := 1) rfl ?_
    refine o_goto X0 hx (hb hby d2_22) (pc' := 26) rfl (by decide) ?_
    exact kt
  obtain ⟨fs, hr, hrun, hended, hW, hsame⟩ := X0.leave (v := some (.int (1 : Int32))) (fun h => by rw [Bd.returns] at h; cases h)
  refine ⟨_, _, pre0 _ (go1 _ ?_), hrun, hended, _, _, rfl, ?_, ⟨_, rfl⟩, hW, hsame.mono (by decide) (by decide)⟩
  · skip
    exact retN X0 hx (t := .boolean) Bd.returns (by simp) (hb hby d2_26) hr
  · show Q2_1_3 Z a1 q4 k1 w0 w1 w2 w3 w4 w5 w6 w7 h0 n0 _ s₁.heap _
    rw [e0]
    exact ⟨rfl, N0, rfl⟩

theorem pn_2_1_4 : plainName "com/example/glottis/glottis/audio/AudioPutPinLaw" = true := by first | (simp [plainName, overriddenIn]; done) | decide +kernel
theorem ef_2_1_4 (m : MethodId) (x0 : Addr) (x3 : Int64) : entryFrame m #[(.ref x0), (.int (4 : Int32)), (.int (1 : Int32)), (.long x3)] 5 = mkF m 0 #[vr x0, vi (4 : Int32), vi (1 : Int32), vj x3, .second] [] := by first | (simp [entryFrame, mkF, argsToLocals, Value.category]; done) | rfl
def Q2_1_4 (Z : State) (a1 : Addr) (q4 : Int64) (k1 : ClassId) (w0 : Int32) (w1 : Int32) (w2 : Int32) (w3 : Int32) (w4 : Int32) (w5 : Int32) (w6 : Int32) (w7 : Int32) (h0 : Heap) (n0 : Nat) (v : Option Value) (h : Heap) (L : List Loc) : Prop := v = some (.int (1 : Int32)) ∧ Fr n0 L ∧ h = h0
set_option maxRecDepth 65536 in
set_option maxHeartbeats 40000000 in
theorem rm2_1_4 (l : Launch) (Z : State) (a0 : Array Value) (hw : ∀ d ∈ tables_1, d.before a0 Z = true) (ws : List Jvm.Cond) (a1 : Addr) (q4 : Int64) (k1 : ClassId) (w0 : Int32) (w1 : Int32) (w2 : Int32) (w3 : Int32) (w4 : Int32) (w5 : Int32) (w6 : Int32) (w7 : Int32) (h0 : Heap) (n0 : Nat) (Z0 : n0 ≤ h0.size) (V0 : Arv Z h0 a1 k1 .byte (8 : Int32) [(.int w0), (.int w1), (.int w2), (.int w3), (.int w4), (.int w5), (.int w6), (.int w7)] (.int (0 : Int32))) (hv : w4 = ((q4 >>> ((32 : Int32) &&& 0x3f).toInt64).toInt32.toInt8.toInt32)) :
    MetFree l y_1 (head1 (Jvm.Cond.code y_1 method_2_code 5 (some .boolean) :: ws) ({ frames := 0, cells := 0, slots := 0, locals := 0 } : Room)) (fun a U => a = #[(.ref a1), (.int (4 : Int32)), (.int (1 : Int32)), (.long q4)] ∧ Z.Warmed39 U.vm ∧ U.heap = h0) (fun _ _ _ _ _ => True) (fun _ U o U' => ∃ v L, o = .returned v ∧ Q2_1_4 Z a1 q4 k1 w0 w1 w2 w3 w4 w5 w6 w7 h0 n0 v U'.heap L ∧ FrameEnd U o U' L ({ frames := 0, cells := 0, slots := 0, locals := 0 } : Room).cells ({ frames := 0, cells := 0, slots := 0, locals := 0 } : Room).slots) := by
  refine MetFree.of_bodySF (plainFor_of_name pn_2_1_4) hisR ?_
  intro p e s m args below meth c s₁ Bd hml0 hP hK
  obtain ⟨rfl, hZ, hh⟩ := hP
  have hx := Bd.exec
  have hby := Bd.bytes
  have hml : c.maxLocals = 5 := hml0
  have hown : s.vm.findClass "com/example/glottis/glottis/audio/AudioPutPinLaw" = some m.cls := findClass_of_methodNamed Bd.named
  have hnm := (name_of_methodNamed Bd.named Bd.method).1
  have X0 : Stand p l e ({ frames := 0, cells := 0, slots := 0, locals := 0 } : Room) s m #[(.ref a1), (.int (4 : Int32)), (.int (1 : Int32)), (.long q4)] below meth c s₁ [] 0 0 := Stand.of_body Bd
  have e0 : s₁.heap = h0 := by rw [← hh, Bd.state]; rfl
  have N0 := Fr.nil n0
  obtain ⟨F0, hF0⟩ : ∃ F : JFrame, F = entryFrame m #[(.ref a1), (.int (4 : Int32)), (.int (1 : Int32)), (.long q4)] 5 := ⟨_, rfl⟩
  have pre0 : ∀ t, Steps p.tables e below (s₁.setTop F0) t → Steps p.tables e below (s₁.setTop (entryFrame m #[(.ref a1), (.int (4 : Int32)), (.int (1 : Int32)), (.long q4)] 5)) t := fun t k => hF0 ▸ k
  have go0 : Go p e below s₁ F0 s₁ (mkF m 0 #[vr a1, vi (4 : Int32), vi (1 : Int32), vj q4, .second] []) := fun t k => castTop (hF0.trans (ef_2_1_4 m a1 q4)) k
  have go1 : Go p e below s₁ F0 s₁ (mkF m 9 #[vr a1, vi (4 : Int32), vi (1 : Int32), vj q4, .second] [(.int (4 : Int32)), (.ref a1)]) := by
    intro t kt
    refine go0 t ?_
    refine o_iloadN X0 hx (hb hby d2_0) rfl ?_
    refine o_iconst X0 hx (hb hby d2_1) (v := 1) rfl ?_
    refine o_ishrE X0 hx (hb hby d2_2) (v := 2) rfl ?_
    refine o_iloadN X0 hx (hb hby d2_3) rfl ?_
    refine o_icmpNo X0 hx (hb hby d2_4) (feq (by decide : ¬ ((2 : Int32) = (1 : Int32)))).1 ?_
    refine o_aloadN X0 hx (hb hby d2_7) rfl rfl ?_
    refine o_iloadN X0 hx (hb hby d2_8) rfl ?_
    exact kt
  obtain ⟨cl2, Ar2, -, Sz2, Nn2, Hs2, -⟩ := id V0
  have hin2 : ¬ ((4 : Int32) < 0 ∨ cl2.slots.size ≤ ((4 : Int32)).toNatClampNeg) := inb_of Sz2 ⟨by decide, by decide⟩
  have hat2 : cl2.slots[((4 : Int32)).toNatClampNeg]? = some (.int w4) := Hs2.at hin2 rfl
  have go4 : Go p e below s₁ F0 s₁ (mkF m 18 #[vr a1, vi (4 : Int32), vi (1 : Int32), vj q4, .second] [(.int (((q4 >>> ((32 : Int32) &&& 0x3f).toInt64).toInt32).toInt8.toInt32)), (.int w4)]) := by
    intro t kt
    refine go1 t ?_
    refine o_baload X0 hx hZ e0 Ar2 hin2 hat2 (hb hby d2_9) ?_
    refine o_lloadN X0 hx (hb hby d2_10) rfl ?_
    refine o_bipush X0 hx (hb hby d2_11) (v := 8) rfl ?_
    refine o_iloadN X0 hx (hb hby d2_13) rfl ?_
    refine o_imulE X0 hx (hb hby d2_14) (v := 32) rfl ?_
    refine o_lshr X0 hx (hb hby d2_15) ?_
    refine o_l2i X0 hx (hb hby d2_16) ?_
    refine o_i2b X0 hx (hb hby d2_17) ?_
    exact kt
  have hd3 : w4 = (((q4 >>> ((32 : Int32) &&& 0x3f).toInt64).toInt32).toInt8.toInt32) := hv
  have go5 : Go p e below s₁ F0 s₁ (mkF m 26 #[vr a1, vi (4 : Int32), vi (1 : Int32), vj q4, .second] [(.int (1 : Int32))]) := by
    intro t kt
    refine go4 t ?_
    refine o_icmpNo X0 hx (hb hby d2_18) (teq hd3).2 ?_
    refine o_iconst X0 hx (hb hby d2_21) (v := 1) rfl ?_
    refine o_goto X0 hx (hb hby d2_22) (pc' := 26) rfl (by decide) ?_
    exact kt
  obtain ⟨fs, hr, hrun, hended, hW, hsame⟩ := X0.leave (v := some (.int (1 : Int32))) (fun h => by rw [Bd.returns] at h; cases h)
  refine ⟨_, _, pre0 _ (go5 _ ?_), hrun, hended, _, _, rfl, ?_, ⟨_, rfl⟩, hW, hsame.mono (by decide) (by decide)⟩
  · skip
    exact retN X0 hx (t := .boolean) Bd.returns (by simp) (hb hby d2_26) hr
  · show Q2_1_4 Z a1 q4 k1 w0 w1 w2 w3 w4 w5 w6 w7 h0 n0 _ s₁.heap _
    rw [e0]
    exact ⟨rfl, N0, rfl⟩

theorem pn_2_1_5 : plainName "com/example/glottis/glottis/audio/AudioPutPinLaw" = true := by first | (simp [plainName, overriddenIn]; done) | decide +kernel
theorem ef_2_1_5 (m : MethodId) (x0 : Addr) (x3 : Int64) : entryFrame m #[(.ref x0), (.int (5 : Int32)), (.int (1 : Int32)), (.long x3)] 5 = mkF m 0 #[vr x0, vi (5 : Int32), vi (1 : Int32), vj x3, .second] [] := by first | (simp [entryFrame, mkF, argsToLocals, Value.category]; done) | rfl
def Q2_1_5 (Z : State) (a1 : Addr) (q4 : Int64) (k1 : ClassId) (w0 : Int32) (w1 : Int32) (w2 : Int32) (w3 : Int32) (w4 : Int32) (w5 : Int32) (w6 : Int32) (w7 : Int32) (h0 : Heap) (n0 : Nat) (v : Option Value) (h : Heap) (L : List Loc) : Prop := v = some (.int (1 : Int32)) ∧ Fr n0 L ∧ h = h0
set_option maxRecDepth 65536 in
set_option maxHeartbeats 40000000 in
theorem rm2_1_5 (l : Launch) (Z : State) (a0 : Array Value) (hw : ∀ d ∈ tables_1, d.before a0 Z = true) (ws : List Jvm.Cond) (a1 : Addr) (q4 : Int64) (k1 : ClassId) (w0 : Int32) (w1 : Int32) (w2 : Int32) (w3 : Int32) (w4 : Int32) (w5 : Int32) (w6 : Int32) (w7 : Int32) (h0 : Heap) (n0 : Nat) (Z0 : n0 ≤ h0.size) (V0 : Arv Z h0 a1 k1 .byte (8 : Int32) [(.int w0), (.int w1), (.int w2), (.int w3), (.int w4), (.int w5), (.int w6), (.int w7)] (.int (0 : Int32))) (hv : w5 = ((q4 >>> ((40 : Int32) &&& 0x3f).toInt64).toInt32.toInt8.toInt32)) :
    MetFree l y_1 (head1 (Jvm.Cond.code y_1 method_2_code 5 (some .boolean) :: ws) ({ frames := 0, cells := 0, slots := 0, locals := 0 } : Room)) (fun a U => a = #[(.ref a1), (.int (5 : Int32)), (.int (1 : Int32)), (.long q4)] ∧ Z.Warmed39 U.vm ∧ U.heap = h0) (fun _ _ _ _ _ => True) (fun _ U o U' => ∃ v L, o = .returned v ∧ Q2_1_5 Z a1 q4 k1 w0 w1 w2 w3 w4 w5 w6 w7 h0 n0 v U'.heap L ∧ FrameEnd U o U' L ({ frames := 0, cells := 0, slots := 0, locals := 0 } : Room).cells ({ frames := 0, cells := 0, slots := 0, locals := 0 } : Room).slots) := by
  refine MetFree.of_bodySF (plainFor_of_name pn_2_1_5) hisR ?_
  intro p e s m args below meth c s₁ Bd hml0 hP hK
  obtain ⟨rfl, hZ, hh⟩ := hP
  have hx := Bd.exec
  have hby := Bd.bytes
  have hml : c.maxLocals = 5 := hml0
  have hown : s.vm.findClass "com/example/glottis/glottis/audio/AudioPutPinLaw" = some m.cls := findClass_of_methodNamed Bd.named
  have hnm := (name_of_methodNamed Bd.named Bd.method).1
  have X0 : Stand p l e ({ frames := 0, cells := 0, slots := 0, locals := 0 } : Room) s m #[(.ref a1), (.int (5 : Int32)), (.int (1 : Int32)), (.long q4)] below meth c s₁ [] 0 0 := Stand.of_body Bd
  have e0 : s₁.heap = h0 := by rw [← hh, Bd.state]; rfl
  have N0 := Fr.nil n0
  obtain ⟨F0, hF0⟩ : ∃ F : JFrame, F = entryFrame m #[(.ref a1), (.int (5 : Int32)), (.int (1 : Int32)), (.long q4)] 5 := ⟨_, rfl⟩
  have pre0 : ∀ t, Steps p.tables e below (s₁.setTop F0) t → Steps p.tables e below (s₁.setTop (entryFrame m #[(.ref a1), (.int (5 : Int32)), (.int (1 : Int32)), (.long q4)] 5)) t := fun t k => hF0 ▸ k
  have go0 : Go p e below s₁ F0 s₁ (mkF m 0 #[vr a1, vi (5 : Int32), vi (1 : Int32), vj q4, .second] []) := fun t k => castTop (hF0.trans (ef_2_1_5 m a1 q4)) k
  have go1 : Go p e below s₁ F0 s₁ (mkF m 9 #[vr a1, vi (5 : Int32), vi (1 : Int32), vj q4, .second] [(.int (5 : Int32)), (.ref a1)]) := by
    intro t kt
    refine go0 t ?_
    refine o_iloadN X0 hx (hb hby d2_0) rfl ?_
    refine o_iconst X0 hx (hb hby d2_1) (v := 1) rfl ?_
    refine o_ishrE X0 hx (hb hby d2_2) (v := 2) rfl ?_
    refine o_iloadN X0 hx (hb hby d2_3) rfl ?_
    refine o_icmpNo X0 hx (hb hby d2_4) (feq (by decide : ¬ ((2 : Int32) = (1 : Int32)))).1 ?_
    refine o_aloadN X0 hx (hb hby d2_7) rfl rfl ?_
    refine o_iloadN X0 hx (hb hby d2_8) rfl ?_
    exact kt
  obtain ⟨cl2, Ar2, -, Sz2, Nn2, Hs2, -⟩ := id V0
  have hin2 : ¬ ((5 : Int32) < 0 ∨ cl2.slots.size ≤ ((5 : Int32)).toNatClampNeg) := inb_of Sz2 ⟨by decide, by decide⟩
  have hat2 : cl2.slots[((5 : Int32)).toNatClampNeg]? = some (.int w5) := Hs2.at hin2 rfl
  have go4 : Go p e below s₁ F0 s₁ (mkF m 18 #[vr a1, vi (5 : Int32), vi (1 : Int32), vj q4, .second] [(.int (((q4 >>> ((40 : Int32) &&& 0x3f).toInt64).toInt32).toInt8.toInt32)), (.int w5)]) := by
    intro t kt
    refine go1 t ?_
    refine o_baload X0 hx hZ e0 Ar2 hin2 hat2 (hb hby d2_9) ?_
    refine o_lloadN X0 hx (hb hby d2_10) rfl ?_
    refine o_bipush X0 hx (hb hby d2_11) (v := 8) rfl ?_
    refine o_iloadN X0 hx (hb hby d2_13) rfl ?_
    refine o_imulE X0 hx (hb hby d2_14) (v := 40) rfl ?_
    refine o_lshr X0 hx (hb hby d2_15) ?_
    refine o_l2i X0 hx (hb hby d2_16) ?_
    refine o_i2b X0 hx (hb hby d2_17) ?_
    exact kt
  have hd3 : w5 = (((q4 >>> ((40 : Int32) &&& 0x3f).toInt64).toInt32).toInt8.toInt32) := hv
  have go5 : Go p e below s₁ F0 s₁ (mkF m 26 #[vr a1, vi (5 : Int32), vi (1 : Int32), vj q4, .second] [(.int (1 : Int32))]) := by
    intro t kt
    refine go4 t ?_
    refine o_icmpNo X0 hx (hb hby d2_18) (teq hd3).2 ?_
    refine o_iconst X0 hx (hb hby d2_21) (v := 1) rfl ?_
    refine o_goto X0 hx (hb hby d2_22) (pc' := 26) rfl (by decide) ?_
    exact kt
  obtain ⟨fs, hr, hrun, hended, hW, hsame⟩ := X0.leave (v := some (.int (1 : Int32))) (fun h => by rw [Bd.returns] at h; cases h)
  refine ⟨_, _, pre0 _ (go5 _ ?_), hrun, hended, _, _, rfl, ?_, ⟨_, rfl⟩, hW, hsame.mono (by decide) (by decide)⟩
  · skip
    exact retN X0 hx (t := .boolean) Bd.returns (by simp) (hb hby d2_26) hr
  · show Q2_1_5 Z a1 q4 k1 w0 w1 w2 w3 w4 w5 w6 w7 h0 n0 _ s₁.heap _
    rw [e0]
    exact ⟨rfl, N0, rfl⟩

theorem pn_2_1_6 : plainName "com/example/glottis/glottis/audio/AudioPutPinLaw" = true := by first | (simp [plainName, overriddenIn]; done) | decide +kernel
theorem ef_2_1_6 (m : MethodId) (x0 : Addr) (x3 : Int64) : entryFrame m #[(.ref x0), (.int (6 : Int32)), (.int (1 : Int32)), (.long x3)] 5 = mkF m 0 #[vr x0, vi (6 : Int32), vi (1 : Int32), vj x3, .second] [] := by first | (simp [entryFrame, mkF, argsToLocals, Value.category]; done) | rfl
def Q2_1_6 (Z : State) (a1 : Addr) (q4 : Int64) (k1 : ClassId) (w0 : Int32) (w1 : Int32) (w2 : Int32) (w3 : Int32) (w4 : Int32) (w5 : Int32) (w6 : Int32) (w7 : Int32) (h0 : Heap) (n0 : Nat) (v : Option Value) (h : Heap) (L : List Loc) : Prop := v = some (.int (1 : Int32)) ∧ Fr n0 L ∧ h = h0
set_option maxRecDepth 65536 in
set_option maxHeartbeats 40000000 in
theorem rm2_1_6 (l : Launch) (Z : State) (a0 : Array Value) (hw : ∀ d ∈ tables_1, d.before a0 Z = true) (ws : List Jvm.Cond) (a1 : Addr) (q4 : Int64) (k1 : ClassId) (w0 : Int32) (w1 : Int32) (w2 : Int32) (w3 : Int32) (w4 : Int32) (w5 : Int32) (w6 : Int32) (w7 : Int32) (h0 : Heap) (n0 : Nat) (Z0 : n0 ≤ h0.size) (V0 : Arv Z h0 a1 k1 .byte (8 : Int32) [(.int w0), (.int w1), (.int w2), (.int w3), (.int w4), (.int w5), (.int w6), (.int w7)] (.int (0 : Int32))) (hv : w6 = ((q4 >>> ((48 : Int32) &&& 0x3f).toInt64).toInt32.toInt8.toInt32)) :
    MetFree l y_1 (head1 (Jvm.Cond.code y_1 method_2_code 5 (some .boolean) :: ws) ({ frames := 0, cells := 0, slots := 0, locals := 0 } : Room)) (fun a U => a = #[(.ref a1), (.int (6 : Int32)), (.int (1 : Int32)), (.long q4)] ∧ Z.Warmed39 U.vm ∧ U.heap = h0) (fun _ _ _ _ _ => True) (fun _ U o U' => ∃ v L, o = .returned v ∧ Q2_1_6 Z a1 q4 k1 w0 w1 w2 w3 w4 w5 w6 w7 h0 n0 v U'.heap L ∧ FrameEnd U o U' L ({ frames := 0, cells := 0, slots := 0, locals := 0 } : Room).cells ({ frames := 0, cells := 0, slots := 0, locals := 0 } : Room).slots) := by
  refine MetFree.of_bodySF (plainFor_of_name pn_2_1_6) hisR ?_
  intro p e s m args below meth c s₁ Bd hml0 hP hK
  obtain ⟨rfl, hZ, hh⟩ := hP
  have hx := Bd.exec
  have hby := Bd.bytes
  have hml : c.maxLocals = 5 := hml0
  have hown : s.vm.findClass "com/example/glottis/glottis/audio/AudioPutPinLaw" = some m.cls := findClass_of_methodNamed Bd.named
  have hnm := (name_of_methodNamed Bd.named Bd.method).1
  have X0 : Stand p l e ({ frames := 0, cells := 0, slots := 0, locals := 0 } : Room) s m #[(.ref a1), (.int (6 : Int32)), (.int (1 : Int32)), (.long q4)] below meth c s₁ [] 0 0 := Stand.of_body Bd
  have e0 : s₁.heap = h0 := by rw [← hh, Bd.state]; rfl
  have N0 := Fr.nil n0
  obtain ⟨F0, hF0⟩ : ∃ F : JFrame, F = entryFrame m #[(.ref a1), (.int (6 : Int32)), (.int (1 : Int32)), (.long q4)] 5 := ⟨_, rfl⟩
  have pre0 : ∀ t, Steps p.tables e below (s₁.setTop F0) t → Steps p.tables e below (s₁.setTop (entryFrame m #[(.ref a1), (.int (6 : Int32)), (.int (1 : Int32)), (.long q4)] 5)) t := fun t k => hF0 ▸ k
  have go0 : Go p e below s₁ F0 s₁ (mkF m 0 #[vr a1, vi (6 : Int32), vi (1 : Int32), vj q4, .second] []) := fun t k => castTop (hF0.trans (ef_2_1_6 m a1 q4)) k
  have go1 : Go p e below s₁ F0 s₁ (mkF m 9 #[vr a1, vi (6 : Int32), vi (1 : Int32), vj q4, .second] [(.int (6 : Int32)), (.ref a1)]) := by
    intro t kt
    refine go0 t ?_
    refine o_iloadN X0 hx (hb hby d2_0) rfl ?_
    refine o_iconst X0 hx (hb hby d2_1) (v := 1) rfl ?_
    refine o_ishrE X0 hx (hb hby d2_2) (v := 3) rfl ?_
    refine o_iloadN X0 hx (hb hby d2_3) rfl ?_
    refine o_icmpNo X0 hx (hb hby d2_4) (feq (by decide : ¬ ((3 : Int32) = (1 : Int32)))).1 ?_
    refine o_aloadN X0 hx (hb hby d2_7) rfl rfl ?_
    refine o_iloadN X0 hx (hb hby d2_8) rfl ?_
    exact kt
  obtain ⟨cl2, Ar2, -, Sz2, Nn2, Hs2, -⟩ := id V0
  have hin2 : ¬ ((6 : Int32) < 0 ∨ cl2.slots.size ≤ ((6 : Int32)).toNatClampNeg) := inb_of Sz2 ⟨by decide, by decide⟩
  have hat2 : cl2.slots[((6 : Int32)).toNatClampNeg]? = some (.int w6) := Hs2.at hin2 rfl
  have go4 : Go p e below s₁ F0 s₁ (mkF m 18 #[vr a1, vi (6 : Int32), vi (1 : Int32), vj q4, .second] [(.int (((q4 >>> ((48 : Int32) &&& 0x3f).toInt64).toInt32).toInt8.toInt32)), (.int w6)]) := by
    intro t kt
    refine go1 t ?_
    refine o_baload X0 hx hZ e0 Ar2 hin2 hat2 (hb hby d2_9) ?_
    refine o_lloadN X0 hx (hb hby d2_10) rfl ?_
    refine o_bipush X0 hx (hb hby d2_11) (v := 8) rfl ?_
    refine o_iloadN X0 hx (hb hby d2_13) rfl ?_
    refine o_imulE X0 hx (hb hby d2_14) (v := 48) rfl ?_
    refine o_lshr X0 hx (hb hby d2_15) ?_
    refine o_l2i X0 hx (hb hby d2_16) ?_
    refine o_i2b X0 hx (hb hby d2_17) ?_
    exact kt
  have hd3 : w6 = (((q4 >>> ((48 : Int32) &&& 0x3f).toInt64).toInt32).toInt8.toInt32) := hv
  have go5 : Go p e below s₁ F0 s₁ (mkF m 26 #[vr a1, vi (6 : Int32), vi (1 : Int32), vj q4, .second] [(.int (1 : Int32))]) := by
    intro t kt
    refine go4 t ?_
    refine o_icmpNo X0 hx (hb hby d2_18) (teq hd3).2 ?_
    refine o_iconst X0 hx (hb hby d2_21) (v := 1) rfl ?_
    refine o_goto X0 hx (hb hby d2_22) (pc' := 26) rfl (by decide) ?_
    exact kt
  obtain ⟨fs, hr, hrun, hended, hW, hsame⟩ := X0.leave (v := some (.int (1 : Int32))) (fun h => by rw [Bd.returns] at h; cases h)
  refine ⟨_, _, pre0 _ (go5 _ ?_), hrun, hended, _, _, rfl, ?_, ⟨_, rfl⟩, hW, hsame.mono (by decide) (by decide)⟩
  · skip
    exact retN X0 hx (t := .boolean) Bd.returns (by simp) (hb hby d2_26) hr
  · show Q2_1_6 Z a1 q4 k1 w0 w1 w2 w3 w4 w5 w6 w7 h0 n0 _ s₁.heap _
    rw [e0]
    exact ⟨rfl, N0, rfl⟩

theorem pn_2_1_7 : plainName "com/example/glottis/glottis/audio/AudioPutPinLaw" = true := by first | (simp [plainName, overriddenIn]; done) | decide +kernel
theorem ef_2_1_7 (m : MethodId) (x0 : Addr) (x3 : Int64) : entryFrame m #[(.ref x0), (.int (7 : Int32)), (.int (1 : Int32)), (.long x3)] 5 = mkF m 0 #[vr x0, vi (7 : Int32), vi (1 : Int32), vj x3, .second] [] := by first | (simp [entryFrame, mkF, argsToLocals, Value.category]; done) | rfl
def Q2_1_7 (Z : State) (a1 : Addr) (q4 : Int64) (k1 : ClassId) (w0 : Int32) (w1 : Int32) (w2 : Int32) (w3 : Int32) (w4 : Int32) (w5 : Int32) (w6 : Int32) (w7 : Int32) (h0 : Heap) (n0 : Nat) (v : Option Value) (h : Heap) (L : List Loc) : Prop := v = some (.int (1 : Int32)) ∧ Fr n0 L ∧ h = h0
set_option maxRecDepth 65536 in
set_option maxHeartbeats 40000000 in
theorem rm2_1_7 (l : Launch) (Z : State) (a0 : Array Value) (hw : ∀ d ∈ tables_1, d.before a0 Z = true) (ws : List Jvm.Cond) (a1 : Addr) (q4 : Int64) (k1 : ClassId) (w0 : Int32) (w1 : Int32) (w2 : Int32) (w3 : Int32) (w4 : Int32) (w5 : Int32) (w6 : Int32) (w7 : Int32) (h0 : Heap) (n0 : Nat) (Z0 : n0 ≤ h0.size) (V0 : Arv Z h0 a1 k1 .byte (8 : Int32) [(.int w0), (.int w1), (.int w2), (.int w3), (.int w4), (.int w5), (.int w6), (.int w7)] (.int (0 : Int32))) (hv : w7 = ((q4 >>> ((56 : Int32) &&& 0x3f).toInt64).toInt32.toInt8.toInt32)) :
    MetFree l y_1 (head1 (Jvm.Cond.code y_1 method_2_code 5 (some .boolean) :: ws) ({ frames := 0, cells := 0, slots := 0, locals := 0 } : Room)) (fun a U => a = #[(.ref a1), (.int (7 : Int32)), (.int (1 : Int32)), (.long q4)] ∧ Z.Warmed39 U.vm ∧ U.heap = h0) (fun _ _ _ _ _ => True) (fun _ U o U' => ∃ v L, o = .returned v ∧ Q2_1_7 Z a1 q4 k1 w0 w1 w2 w3 w4 w5 w6 w7 h0 n0 v U'.heap L ∧ FrameEnd U o U' L ({ frames := 0, cells := 0, slots := 0, locals := 0 } : Room).cells ({ frames := 0, cells := 0, slots := 0, locals := 0 } : Room).slots) := by
  refine MetFree.of_bodySF (plainFor_of_name pn_2_1_7) hisR ?_
  intro p e s m args below meth c s₁ Bd hml0 hP hK
  obtain ⟨rfl, hZ, hh⟩ := hP
  have hx := Bd.exec
  have hby := Bd.bytes
  have hml : c.maxLocals = 5 := hml0
  have hown : s.vm.findClass "com/example/glottis/glottis/audio/AudioPutPinLaw" = some m.cls := findClass_of_methodNamed Bd.named
  have hnm := (name_of_methodNamed Bd.named Bd.method).1
  have X0 : Stand p l e ({ frames := 0, cells := 0, slots := 0, locals := 0 } : Room) s m #[(.ref a1), (.int (7 : Int32)), (.int (1 : Int32)), (.long q4)] below meth c s₁ [] 0 0 := Stand.of_body Bd
  have e0 : s₁.heap = h0 := by rw [← hh, Bd.state]; rfl
  have N0 := Fr.nil n0
  obtain ⟨F0, hF0⟩ : ∃ F : JFrame, F = entryFrame m #[(.ref a1), (.int (7 : Int32)), (.int (1 : Int32)), (.long q4)] 5 := ⟨_, rfl⟩
  have pre0 : ∀ t, Steps p.tables e below (s₁.setTop F0) t → Steps p.tables e below (s₁.setTop (entryFrame m #[(.ref a1), (.int (7 : Int32)), (.int (1 : Int32)), (.long q4)] 5)) t := fun t k => hF0 ▸ k
  have go0 : Go p e below s₁ F0 s₁ (mkF m 0 #[vr a1, vi (7 : Int32), vi (1 : Int32), vj q4, .second] []) := fun t k => castTop (hF0.trans (ef_2_1_7 m a1 q4)) k
  have go1 : Go p e below s₁ F0 s₁ (mkF m 9 #[vr a1, vi (7 : Int32), vi (1 : Int32), vj q4, .second] [(.int (7 : Int32)), (.ref a1)]) := by
    intro t kt
    refine go0 t ?_
    refine o_iloadN X0 hx (hb hby d2_0) rfl ?_
    refine o_iconst X0 hx (hb hby d2_1) (v := 1) rfl ?_
    refine o_ishrE X0 hx (hb hby d2_2) (v := 3) rfl ?_
    refine o_iloadN X0 hx (hb hby d2_3) rfl ?_
    refine o_icmpNo X0 hx (hb hby d2_4) (feq (by decide : ¬ ((3 : Int32) = (1 : Int32)))).1 ?_
    refine o_aloadN X0 hx (hb hby d2_7) rfl rfl ?_
    refine o_iloadN X0 hx (hb hby d2_8) rfl ?_
    exact kt
  obtain ⟨cl2, Ar2, -, Sz2, Nn2, Hs2, -⟩ := id V0
  have hin2 : ¬ ((7 : Int32) < 0 ∨ cl2.slots.size ≤ ((7 : Int32)).toNatClampNeg) := inb_of Sz2 ⟨by decide, by decide⟩
  have hat2 : cl2.slots[((7 : Int32)).toNatClampNeg]? = some (.int w7) := Hs2.at hin2 rfl
  have go4 : Go p e below s₁ F0 s₁ (mkF m 18 #[vr a1, vi (7 : Int32), vi (1 : Int32), vj q4, .second] [(.int (((q4 >>> ((56 : Int32) &&& 0x3f).toInt64).toInt32).toInt8.toInt32)), (.int w7)]) := by
    intro t kt
    refine go1 t ?_
    refine o_baload X0 hx hZ e0 Ar2 hin2 hat2 (hb hby d2_9) ?_
    refine o_lloadN X0 hx (hb hby d2_10) rfl ?_
    refine o_bipush X0 hx (hb hby d2_11) (v := 8) rfl ?_
    refine o_iloadN X0 hx (hb hby d2_13) rfl ?_
    refine o_imulE X0 hx (hb hby d2_14) (v := 56) rfl ?_
    refine o_lshr X0 hx (hb hby d2_15) ?_
    refine o_l2i X0 hx (hb hby d2_16) ?_
    refine o_i2b X0 hx (hb hby d2_17) ?_
    exact kt
  have hd3 : w7 = (((q4 >>> ((56 : Int32) &&& 0x3f).toInt64).toInt32).toInt8.toInt32) := hv
  have go5 : Go p e below s₁ F0 s₁ (mkF m 26 #[vr a1, vi (7 : Int32), vi (1 : Int32), vj q4, .second] [(.int (1 : Int32))]) := by
    intro t kt
    refine go4 t ?_
    refine o_icmpNo X0 hx (hb hby d2_18) (teq hd3).2 ?_
    refine o_iconst X0 hx (hb hby d2_21) (v := 1) rfl ?_
    refine o_goto X0 hx (hb hby d2_22) (pc' := 26) rfl (by decide) ?_
    exact kt
  obtain ⟨fs, hr, hrun, hended, hW, hsame⟩ := X0.leave (v := some (.int (1 : Int32))) (fun h => by rw [Bd.returns] at h; cases h)
  refine ⟨_, _, pre0 _ (go5 _ ?_), hrun, hended, _, _, rfl, ?_, ⟨_, rfl⟩, hW, hsame.mono (by decide) (by decide)⟩
  · skip
    exact retN X0 hx (t := .boolean) Bd.returns (by simp) (hb hby d2_26) hr
  · show Q2_1_7 Z a1 q4 k1 w0 w1 w2 w3 w4 w5 w6 w7 h0 n0 _ s₁.heap _
    rw [e0]
    exact ⟨rfl, N0, rfl⟩

theorem pn_2_2_0 : plainName "com/example/glottis/glottis/audio/AudioPutPinLaw" = true := by first | (simp [plainName, overriddenIn]; done) | decide +kernel
theorem ef_2_2_0 (m : MethodId) (x0 : Addr) (x3 : Int64) : entryFrame m #[(.ref x0), (.int (0 : Int32)), (.int (2 : Int32)), (.long x3)] 5 = mkF m 0 #[vr x0, vi (0 : Int32), vi (2 : Int32), vj x3, .second] [] := by first | (simp [entryFrame, mkF, argsToLocals, Value.category]; done) | rfl
def Q2_2_0 (Z : State) (a1 : Addr) (q4 : Int64) (k1 : ClassId) (w0 : Int32) (w1 : Int32) (w2 : Int32) (w3 : Int32) (w4 : Int32) (w5 : Int32) (w6 : Int32) (w7 : Int32) (h0 : Heap) (n0 : Nat) (v : Option Value) (h : Heap) (L : List Loc) : Prop := v = some (.int (1 : Int32)) ∧ Fr n0 L ∧ h = h0
set_option maxRecDepth 65536 in
set_option maxHeartbeats 40000000 in
theorem rm2_2_0 (l : Launch) (Z : State) (a0 : Array Value) (hw : ∀ d ∈ tables_1, d.before a0 Z = true) (ws : List Jvm.Cond) (a1 : Addr) (q4 : Int64) (k1 : ClassId) (w0 : Int32) (w1 : Int32) (w2 : Int32) (w3 : Int32) (w4 : Int32) (w5 : Int32) (w6 : Int32) (w7 : Int32) (h0 : Heap) (n0 : Nat) (Z0 : n0 ≤ h0.size) (V0 : Arv Z h0 a1 k1 .byte (8 : Int32) [(.int w0), (.int w1), (.int w2), (.int w3), (.int w4), (.int w5), (.int w6), (.int w7)] (.int (0 : Int32))) (hv : w0 = ((q4 >>> ((0 : Int32) &&& 0x3f).toInt64).toInt32.toInt8.toInt32)) :
    MetFree l y_1 (head1 (Jvm.Cond.code y_1 method_2_code 5 (some .boolean) :: ws) ({ frames := 0, cells := 0, slots := 0, locals := 0 } : Room)) (fun a U => a = #[(.ref a1), (.int (0 : Int32)), (.int (2 : Int32)), (.long q4)] ∧ Z.Warmed39 U.vm ∧ U.heap = h0) (fun _ _ _ _ _ => True) (fun _ U o U' => ∃ v L, o = .returned v ∧ Q2_2_0 Z a1 q4 k1 w0 w1 w2 w3 w4 w5 w6 w7 h0 n0 v U'.heap L ∧ FrameEnd U o U' L ({ frames := 0, cells := 0, slots := 0, locals := 0 } : Room).cells ({ frames := 0, cells := 0, slots := 0, locals := 0 } : Room).slots) := by
  refine MetFree.of_bodySF (plainFor_of_name pn_2_2_0) hisR ?_
  intro p e s m args below meth c s₁ Bd hml0 hP hK
  obtain ⟨rfl, hZ, hh⟩ := hP
  have hx := Bd.exec
  have hby := Bd.bytes
  have hml : c.maxLocals = 5 := hml0
  have hown : s.vm.findClass "com/example/glottis/glottis/audio/AudioPutPinLaw" = some m.cls := findClass_of_methodNamed Bd.named
  have hnm := (name_of_methodNamed Bd.named Bd.method).1
  have X0 : Stand p l e ({ frames := 0, cells := 0, slots := 0, locals := 0 } : Room) s m #[(.ref a1), (.int (0 : Int32)), (.int (2 : Int32)), (.long q4)] below meth c s₁ [] 0 0 := Stand.of_body Bd
  have e0 : s₁.heap = h0 := by rw [← hh, Bd.state]; rfl
  have N0 := Fr.nil n0
  obtain ⟨F0, hF0⟩ : ∃ F : JFrame, F = entryFrame m #[(.ref a1), (.int (0 : Int32)), (.int (2 : Int32)), (.long q4)] 5 := ⟨_, rfl⟩
  have pre0 : ∀ t, Steps p.tables e below (s₁.setTop F0) t → Steps p.tables e below (s₁.setTop (entryFrame m #[(.ref a1), (.int (0 : Int32)), (.int (2 : Int32)), (.long q4)] 5)) t := fun t k => hF0 ▸ k
  have go0 : Go p e below s₁ F0 s₁ (mkF m 0 #[vr a1, vi (0 : Int32), vi (2 : Int32), vj q4, .second] []) := fun t k => castTop (hF0.trans (ef_2_2_0 m a1 q4)) k
  have go1 : Go p e below s₁ F0 s₁ (mkF m 9 #[vr a1, vi (0 : Int32), vi (2 : Int32), vj q4, .second] [(.int (0 : Int32)), (.ref a1)]) := by
    intro t kt
    refine go0 t ?_
    refine o_iloadN X0 hx (hb hby d2_0) rfl ?_
    refine o_iconst X0 hx (hb hby d2_1) (v := 1) rfl ?_
    refine o_ishrE X0 hx (hb hby d2_2) (v := 0) rfl ?_
    refine o_iloadN X0 hx (hb hby d2_3) rfl ?_
    refine o_icmpNo X0 hx (hb hby d2_4) (feq (by decide : ¬ ((0 : Int32) = (2 : Int32)))).1 ?_
    refine o_aloadN X0 hx (hb hby d2_7) rfl rfl ?_
    refine o_iloadN X0 hx (hb hby d2_8) rfl ?_
    exact kt
  obtain ⟨cl2, Ar2, -, Sz2, Nn2, Hs2, -⟩ := id V0
  have hin2 : ¬ ((0 : Int32) < 0 ∨ cl2.slots.size ≤ ((0 : Int32)).toNatClampNeg) := inb_of Sz2 ⟨by decide, by decide⟩
  have hat2 : cl2.slots[((0 : Int32)).toNatClampNeg]? = some (.int w0) := Hs2.at hin2 rfl
  have go4 : Go p e below s₁ F0 s₁ (mkF m 18 #[vr a1, vi (0 : Int32), vi (2 : Int32), vj q4, .second] [(.int (((q4 >>> ((0 : Int32) &&& 0x3f).toInt64).toInt32).toInt8.toInt32)), (.int w0)]) := by
    intro t kt
    refine go1 t ?_
    refine o_baload X0 hx hZ e0 Ar2 hin2 hat2 (hb hby d2_9) ?_
    refine o_lloadN X0 hx (hb hby d2_10) rfl ?_
    refine o_bipush X0 hx (hb hby d2_11) (v := 8) rfl ?_
    refine o_iloadN X0 hx (hb hby d2_13) rfl ?_
    refine o_imulE X0 hx (hb hby d2_14) (v := 0) rfl ?_
    refine o_lshr X0 hx (hb hby d2_15) ?_
    refine o_l2i X0 hx (hb hby d2_16) ?_
    refine o_i2b X0 hx (hb hby d2_17) ?_
    exact kt
  have hd3 : w0 = (((q4 >>> ((0 : Int32) &&& 0x3f).toInt64).toInt32).toInt8.toInt32) := hv
  have go5 : Go p e below s₁ F0 s₁ (mkF m 26 #[vr a1, vi (0 : Int32), vi (2 : Int32), vj q4, .second] [(.int (1 : Int32))]) := by
    intro t kt
    refine go4 t ?_
    refine o_icmpNo X0 hx (hb hby d2_18) (teq hd3).2 ?_
    refine o_iconst X0 hx (hb hby d2_21) (v := 1) rfl ?_
    refine o_goto X0 hx (hb hby d2_22) (pc' := 26) rfl (by decide) ?_
    exact kt
  obtain ⟨fs, hr, hrun, hended, hW, hsame⟩ := X0.leave (v := some (.int (1 : Int32))) (fun h => by rw [Bd.returns] at h; cases h)
  refine ⟨_, _, pre0 _ (go5 _ ?_), hrun, hended, _, _, rfl, ?_, ⟨_, rfl⟩, hW, hsame.mono (by decide) (by decide)⟩
  · skip
    exact retN X0 hx (t := .boolean) Bd.returns (by simp) (hb hby d2_26) hr
  · show Q2_2_0 Z a1 q4 k1 w0 w1 w2 w3 w4 w5 w6 w7 h0 n0 _ s₁.heap _
    rw [e0]
    exact ⟨rfl, N0, rfl⟩

theorem pn_2_2_1 : plainName "com/example/glottis/glottis/audio/AudioPutPinLaw" = true := by first | (simp [plainName, overriddenIn]; done) | decide +kernel
theorem ef_2_2_1 (m : MethodId) (x0 : Addr) (x3 : Int64) : entryFrame m #[(.ref x0), (.int (1 : Int32)), (.int (2 : Int32)), (.long x3)] 5 = mkF m 0 #[vr x0, vi (1 : Int32), vi (2 : Int32), vj x3, .second] [] := by first | (simp [entryFrame, mkF, argsToLocals, Value.category]; done) | rfl
def Q2_2_1 (Z : State) (a1 : Addr) (q4 : Int64) (k1 : ClassId) (w0 : Int32) (w1 : Int32) (w2 : Int32) (w3 : Int32) (w4 : Int32) (w5 : Int32) (w6 : Int32) (w7 : Int32) (h0 : Heap) (n0 : Nat) (v : Option Value) (h : Heap) (L : List Loc) : Prop := v = some (.int (1 : Int32)) ∧ Fr n0 L ∧ h = h0
set_option maxRecDepth 65536 in
set_option maxHeartbeats 40000000 in
theorem rm2_2_1 (l : Launch) (Z : State) (a0 : Array Value) (hw : ∀ d ∈ tables_1, d.before a0 Z = true) (ws : List Jvm.Cond) (a1 : Addr) (q4 : Int64) (k1 : ClassId) (w0 : Int32) (w1 : Int32) (w2 : Int32) (w3 : Int32) (w4 : Int32) (w5 : Int32) (w6 : Int32) (w7 : Int32) (h0 : Heap) (n0 : Nat) (Z0 : n0 ≤ h0.size) (V0 : Arv Z h0 a1 k1 .byte (8 : Int32) [(.int w0), (.int w1), (.int w2), (.int w3), (.int w4), (.int w5), (.int w6), (.int w7)] (.int (0 : Int32))) (hv : w1 = ((q4 >>> ((8 : Int32) &&& 0x3f).toInt64).toInt32.toInt8.toInt32)) :
    MetFree l y_1 (head1 (Jvm.Cond.code y_1 method_2_code 5 (some .boolean) :: ws) ({ frames := 0, cells := 0, slots := 0, locals := 0 } : Room)) (fun a U => a = #[(.ref a1), (.int (1 : Int32)), (.int (2 : Int32)), (.long q4)] ∧ Z.Warmed39 U.vm ∧ U.heap = h0) (fun _ _ _ _ _ => True) (fun _ U o U' => ∃ v L, o = .returned v ∧ Q2_2_1 Z a1 q4 k1 w0 w1 w2 w3 w4 w5 w6 w7 h0 n0 v U'.heap L ∧ FrameEnd U o U' L ({ frames := 0, cells := 0, slots := 0, locals := 0 } : Room).cells ({ frames := 0, cells := 0, slots := 0, locals := 0 } : Room).slots) := by
  refine MetFree.of_bodySF (plainFor_of_name pn_2_2_1) hisR ?_
  intro p e s m args below meth c s₁ Bd hml0 hP hK
  obtain ⟨rfl, hZ, hh⟩ := hP
  have hx := Bd.exec
  have hby := Bd.bytes
  have hml : c.maxLocals = 5 := hml0
  have hown : s.vm.findClass "com/example/glottis/glottis/audio/AudioPutPinLaw" = some m.cls := findClass_of_methodNamed Bd.named
  have hnm := (name_of_methodNamed Bd.named Bd.method).1
  have X0 : Stand p l e ({ frames := 0, cells := 0, slots := 0, locals := 0 } : Room) s m #[(.ref a1), (.int (1 : Int32)), (.int (2 : Int32)), (.long q4)] below meth c s₁ [] 0 0 := Stand.of_body Bd
  have e0 : s₁.heap = h0 := by rw [← hh, Bd.state]; rfl
  have N0 := Fr.nil n0
  obtain ⟨F0, hF0⟩ : ∃ F : JFrame, F = entryFrame m #[(.ref a1), (.int (1 : Int32)), (.int (2 : Int32)), (.long q4)] 5 := ⟨_, rfl⟩
  have pre0 : ∀ t, Steps p.tables e below (s₁.setTop F0) t → Steps p.tables e below (s₁.setTop (entryFrame m #[(.ref a1), (.int (1 : Int32)), (.int (2 : Int32)), (.long q4)] 5)) t := fun t k => hF0 ▸ k
  have go0 : Go p e below s₁ F0 s₁ (mkF m 0 #[vr a1, vi (1 : Int32), vi (2 : Int32), vj q4, .second] []) := fun t k => castTop (hF0.trans (ef_2_2_1 m a1 q4)) k
  have go1 : Go p e below s₁ F0 s₁ (mkF m 9 #[vr a1, vi (1 : Int32), vi (2 : Int32), vj q4, .second] [(.int (1 : Int32)), (.ref a1)]) := by
    intro t kt
    refine go0 t ?_
    refine o_iloadN X0 hx (hb hby d2_0) rfl ?_
    refine o_iconst X0 hx (hb hby d2_1) (v := 1) rfl ?_
    refine o_ishrE X0 hx (hb hby d2_2) (v := 0) rfl ?_
    refine o_iloadN X0 hx (hb hby d2_3) rfl ?_
    refine o_icmpNo X0 hx (hb hby d2_4) (feq (by decide : ¬ ((0 : Int32) = (2 : Int32)))).1 ?_
    refine o_aloadN X0 hx (hb hby d2_7) rfl rfl ?_
    refine o_iloadN X0 hx (hb hby d2_8) rfl ?_
    exact kt
  obtain ⟨cl2, Ar2, -, Sz2, Nn2, Hs2, -⟩ := id V0
  have hin2 : ¬ ((1 : Int32) < 0 ∨ cl2.slots.size ≤ ((1 : Int32)).toNatClampNeg) := inb_of Sz2 ⟨by decide, by decide⟩
  have hat2 : cl2.slots[((1 : Int32)).toNatClampNeg]? = some (.int w1) := Hs2.at hin2 rfl
  have go4 : Go p e below s₁ F0 s₁ (mkF m 18 #[vr a1, vi (1 : Int32), vi (2 : Int32), vj q4, .second] [(.int (((q4 >>> ((8 : Int32) &&& 0x3f).toInt64).toInt32).toInt8.toInt32)), (.int w1)]) := by
    intro t kt
    refine go1 t ?_
    refine o_baload X0 hx hZ e0 Ar2 hin2 hat2 (hb hby d2_9) ?_
    refine o_lloadN X0 hx (hb hby d2_10) rfl ?_
    refine o_bipush X0 hx (hb hby d2_11) (v := 8) rfl ?_
    refine o_iloadN X0 hx (hb hby d2_13) rfl ?_
    refine o_imulE X0 hx (hb hby d2_14) (v := 8) rfl ?_
    refine o_lshr X0 hx (hb hby d2_15) ?_
    refine o_l2i X0 hx (hb hby d2_16) ?_
    refine o_i2b X0 hx (hb hby d2_17) ?_
    exact kt
  have hd3 : w1 = (((q4 >>> ((8 : Int32) &&& 0x3f).toInt64).toInt32).toInt8.toInt32) := hv
  have go5 : Go p e below s₁ F0 s₁ (mkF m 26 #[vr a1, vi (1 : Int32), vi (2 : Int32), vj q4, .second] [(.int (1 : Int32))]) := by
    intro t kt
    refine go4 t ?_
    refine o_icmpNo X0 hx (hb hby d2_18) (teq hd3).2 ?_
    refine o_iconst X0 hx (hb hby d2_21) (v := 1) rfl ?_
    refine o_goto X0 hx (hb hby d2_22) (pc' := 26) rfl (by decide) ?_
    exact kt
  obtain ⟨fs, hr, hrun, hended, hW, hsame⟩ := X0.leave (v := some (.int (1 : Int32))) (fun h => by rw [Bd.returns] at h; cases h)
  refine ⟨_, _, pre0 _ (go5 _ ?_), hrun, hended, _, _, rfl, ?_, ⟨_, rfl⟩, hW, hsame.mono (by decide) (by decide)⟩
  · skip
    exact retN X0 hx (t := .boolean) Bd.returns (by simp) (hb hby d2_26) hr
  · show Q2_2_1 Z a1 q4 k1 w0 w1 w2 w3 w4 w5 w6 w7 h0 n0 _ s₁.heap _
    rw [e0]
    exact ⟨rfl, N0, rfl⟩

theorem pn_2_2_2 : plainName "com/example/glottis/glottis/audio/AudioPutPinLaw" = true := by first | (simp [plainName, overriddenIn]; done) | decide +kernel
theorem ef_2_2_2 (m : MethodId) (x0 : Addr) (x3 : Int64) : entryFrame m #[(.ref x0), (.int (2 : Int32)), (.int (2 : Int32)), (.long x3)] 5 = mkF m 0 #[vr x0, vi (2 : Int32), vi (2 : Int32), vj x3, .second] [] := by first | (simp [entryFrame, mkF, argsToLocals, Value.category]; done) | rfl
def Q2_2_2 (Z : State) (a1 : Addr) (q4 : Int64) (k1 : ClassId) (w0 : Int32) (w1 : Int32) (w2 : Int32) (w3 : Int32) (w4 : Int32) (w5 : Int32) (w6 : Int32) (w7 : Int32) (h0 : Heap) (n0 : Nat) (v : Option Value) (h : Heap) (L : List Loc) : Prop := v = some (.int (1 : Int32)) ∧ Fr n0 L ∧ h = h0
set_option maxRecDepth 65536 in
set_option maxHeartbeats 40000000 in
theorem rm2_2_2 (l : Launch) (Z : State) (a0 : Array Value) (hw : ∀ d ∈ tables_1, d.before a0 Z = true) (ws : List Jvm.Cond) (a1 : Addr) (q4 : Int64) (k1 : ClassId) (w0 : Int32) (w1 : Int32) (w2 : Int32) (w3 : Int32) (w4 : Int32) (w5 : Int32) (w6 : Int32) (w7 : Int32) (h0 : Heap) (n0 : Nat) (Z0 : n0 ≤ h0.size) (V0 : Arv Z h0 a1 k1 .byte (8 : Int32) [(.int w0), (.int w1), (.int w2), (.int w3), (.int w4), (.int w5), (.int w6), (.int w7)] (.int (0 : Int32))) (hv : w2 = ((q4 >>> ((16 : Int32) &&& 0x3f).toInt64).toInt32.toInt8.toInt32)) :
    MetFree l y_1 (head1 (Jvm.Cond.code y_1 method_2_code 5 (some .boolean) :: ws) ({ frames := 0, cells := 0, slots := 0, locals := 0 } : Room)) (fun a U => a = #[(.ref a1), (.int (2 : Int32)), (.int (2 : Int32)), (.long q4)] ∧ Z.Warmed39 U.vm ∧ U.heap = h0) (fun _ _ _ _ _ => True) (fun _ U o U' => ∃ v L, o = .returned v ∧ Q2_2_2 Z a1 q4 k1 w0 w1 w2 w3 w4 w5 w6 w7 h0 n0 v U'.heap L ∧ FrameEnd U o U' L ({ frames := 0, cells := 0, slots := 0, locals := 0 } : Room).cells ({ frames := 0, cells := 0, slots := 0, locals := 0 } : Room).slots) := by
  refine MetFree.of_bodySF (plainFor_of_name pn_2_2_2) hisR ?_
  intro p e s m args below meth c s₁ Bd hml0 hP hK
  obtain ⟨rfl, hZ, hh⟩ := hP
  have hx := Bd.exec
  have hby := Bd.bytes
  have hml : c.maxLocals = 5 := hml0
  have hown : s.vm.findClass "com/example/glottis/glottis/audio/AudioPutPinLaw" = some m.cls := findClass_of_methodNamed Bd.named
  have hnm := (name_of_methodNamed Bd.named Bd.method).1
  have X0 : Stand p l e ({ frames := 0, cells := 0, slots := 0, locals := 0 } : Room) s m #[(.ref a1), (.int (2 : Int32)), (.int (2 : Int32)), (.long q4)] below meth c s₁ [] 0 0 := Stand.of_body Bd
  have e0 : s₁.heap = h0 := by rw [← hh, Bd.state]; rfl
  have N0 := Fr.nil n0
  obtain ⟨F0, hF0⟩ : ∃ F : JFrame, F = entryFrame m #[(.ref a1), (.int (2 : Int32)), (.int (2 : Int32)), (.long q4)] 5 := ⟨_, rfl⟩
  have pre0 : ∀ t, Steps p.tables e below (s₁.setTop F0) t → Steps p.tables e below (s₁.setTop (entryFrame m #[(.ref a1), (.int (2 : Int32)), (.int (2 : Int32)), (.long q4)] 5)) t := fun t k => hF0 ▸ k
  have go0 : Go p e below s₁ F0 s₁ (mkF m 0 #[vr a1, vi (2 : Int32), vi (2 : Int32), vj q4, .second] []) := fun t k => castTop (hF0.trans (ef_2_2_2 m a1 q4)) k
  have go1 : Go p e below s₁ F0 s₁ (mkF m 9 #[vr a1, vi (2 : Int32), vi (2 : Int32), vj q4, .second] [(.int (2 : Int32)), (.ref a1)]) := by
    intro t kt
    refine go0 t ?_
    refine o_iloadN X0 hx (hb hby d2_0) rfl ?_
    refine o_iconst X0 hx (hb hby d2_1) (v := 1) rfl ?_
    refine o_ishrE X0 hx (hb hby d2_2) (v := 1) rfl ?_
    refine o_iloadN X0 hx (hb hby d2_3) rfl ?_
    refine o_icmpNo X0 hx (hb hby d2_4) (feq (by decide : ¬ ((1 : Int32) = (2 : Int32)))).1 ?_
    refine o_aloadN X0 hx (hb hby d2_7) rfl rfl ?_
    refine o_iloadN X0 hx (hb hby d2_8) rfl ?_
    exact kt
  obtain ⟨cl2, Ar2, -, Sz2, Nn2, Hs2, -⟩ := id V0
  have hin2 : ¬ ((2 : Int32) < 0 ∨ cl2.slots.size ≤ ((2 : Int32)).toNatClampNeg) := inb_of Sz2 ⟨by decide, by decide⟩
  have hat2 : cl2.slots[((2 : Int32)).toNatClampNeg]? = some (.int w2) := Hs2.at hin2 rfl
  have go4 : Go p e below s₁ F0 s₁ (mkF m 18 #[vr a1, vi (2 : Int32), vi (2 : Int32), vj q4, .second] [(.int (((q4 >>> ((16 : Int32) &&& 0x3f).toInt64).toInt32).toInt8.toInt32)), (.int w2)]) := by
    intro t kt
    refine go1 t ?_
    refine o_baload X0 hx hZ e0 Ar2 hin2 hat2 (hb hby d2_9) ?_
    refine o_lloadN X0 hx (hb hby d2_10) rfl ?_
    refine o_bipush X0 hx (hb hby d2_11) (v := 8) rfl ?_
    refine o_iloadN X0 hx (hb hby d2_13) rfl ?_
    refine o_imulE X0 hx (hb hby d2_14) (v := 16) rfl ?_
    refine o_lshr X0 hx (hb hby d2_15) ?_
    refine o_l2i X0 hx (hb hby d2_16) ?_
    refine o_i2b X0 hx (hb hby d2_17) ?_
    exact kt
  have hd3 : w2 = (((q4 >>> ((16 : Int32) &&& 0x3f).toInt64).toInt32).toInt8.toInt32) := hv
  have go5 : Go p e below s₁ F0 s₁ (mkF m 26 #[vr a1, vi (2 : Int32), vi (2 : Int32), vj q4, .second] [(.int (1 : Int32))]) := by
    intro t kt
    refine go4 t ?_
    refine o_icmpNo X0 hx (hb hby d2_18) (teq hd3).2 ?_
    refine o_iconst X0 hx (hb hby d2_21) (v := 1) rfl ?_
    refine o_goto X0 hx (hb hby d2_22) (pc' := 26) rfl (by decide) ?_
    exact kt
  obtain ⟨fs, hr, hrun, hended, hW, hsame⟩ := X0.leave (v := some (.int (1 : Int32))) (fun h => by rw [Bd.returns] at h; cases h)
  refine ⟨_, _, pre0 _ (go5 _ ?_), hrun, hended, _, _, rfl, ?_, ⟨_, rfl⟩, hW, hsame.mono (by decide) (by decide)⟩
  · skip
    exact retN X0 hx (t := .boolean) Bd.returns (by simp) (hb hby d2_26) hr
  · show Q2_2_2 Z a1 q4 k1 w0 w1 w2 w3 w4 w5 w6 w7 h0 n0 _ s₁.heap _
    rw [e0]
    exact ⟨rfl, N0, rfl⟩

theorem pn_2_2_3 : plainName "com/example/glottis/glottis/audio/AudioPutPinLaw" = true := by first | (simp [plainName, overriddenIn]; done) | decide +kernel
theorem ef_2_2_3 (m : MethodId) (x0 : Addr) (x3 : Int64) : entryFrame m #[(.ref x0), (.int (3 : Int32)), (.int (2 : Int32)), (.long x3)] 5 = mkF m 0 #[vr x0, vi (3 : Int32), vi (2 : Int32), vj x3, .second] [] := by first | (simp [entryFrame, mkF, argsToLocals, Value.category]; done) | rfl
def Q2_2_3 (Z : State) (a1 : Addr) (q4 : Int64) (k1 : ClassId) (w0 : Int32) (w1 : Int32) (w2 : Int32) (w3 : Int32) (w4 : Int32) (w5 : Int32) (w6 : Int32) (w7 : Int32) (h0 : Heap) (n0 : Nat) (v : Option Value) (h : Heap) (L : List Loc) : Prop := v = some (.int (1 : Int32)) ∧ Fr n0 L ∧ h = h0
set_option maxRecDepth 65536 in
set_option maxHeartbeats 40000000 in
theorem rm2_2_3 (l : Launch) (Z : State) (a0 : Array Value) (hw : ∀ d ∈ tables_1, d.before a0 Z = true) (ws : List Jvm.Cond) (a1 : Addr) (q4 : Int64) (k1 : ClassId) (w0 : Int32) (w1 : Int32) (w2 : Int32) (w3 : Int32) (w4 : Int32) (w5 : Int32) (w6 : Int32) (w7 : Int32) (h0 : Heap) (n0 : Nat) (Z0 : n0 ≤ h0.size) (V0 : Arv Z h0 a1 k1 .byte (8 : Int32) [(.int w0), (.int w1), (.int w2), (.int w3), (.int w4), (.int w5), (.int w6), (.int w7)] (.int (0 : Int32))) (hv : w3 = ((q4 >>> ((24 : Int32) &&& 0x3f).toInt64).toInt32.toInt8.toInt32)) :
    MetFree l y_1 (head1 (Jvm.Cond.code y_1 method_2_code 5 (some .boolean) :: ws) ({ frames := 0, cells := 0, slots := 0, locals := 0 } : Room)) (fun a U => a = #[(.ref a1), (.int (3 : Int32)), (.int (2 : Int32)), (.long q4)] ∧ Z.Warmed39 U.vm ∧ U.heap = h0) (fun _ _ _ _ _ => True) (fun _ U o U' => ∃ v L, o = .returned v ∧ Q2_2_3 Z a1 q4 k1 w0 w1 w2 w3 w4 w5 w6 w7 h0 n0 v U'.heap L ∧ FrameEnd U o U' L ({ frames := 0, cells := 0, slots := 0, locals := 0 } : Room).cells ({ frames := 0, cells := 0, slots := 0, locals := 0 } : Room).slots) := by
  refine MetFree.of_bodySF (plainFor_of_name pn_2_2_3) hisR ?_
  intro p e s m args below meth c s₁ Bd hml0 hP hK
  obtain ⟨rfl, hZ, hh⟩ := hP
  have hx := Bd.exec
  have hby := Bd.bytes
  have hml : c.maxLocals = 5 := hml0
  have hown : s.vm.findClass "com/example/glottis/glottis/audio/AudioPutPinLaw" = some m.cls := findClass_of_methodNamed Bd.named
  have hnm := (name_of_methodNamed Bd.named Bd.method).1
  have X0 : Stand p l e ({ frames := 0, cells := 0, slots := 0, locals := 0 } : Room) s m #[(.ref a1), (.int (3 : Int32)), (.int (2 : Int32)), (.long q4)] below meth c s₁ [] 0 0 := Stand.of_body Bd
  have e0 : s₁.heap = h0 := by rw [← hh, Bd.state]; rfl
  have N0 := Fr.nil n0
  obtain ⟨F0, hF0⟩ : ∃ F : JFrame, F = entryFrame m #[(.ref a1), (.int (3 : Int32)), (.int (2 : Int32)), (.long q4)] 5 := ⟨_, rfl⟩
  have pre0 : ∀ t, Steps p.tables e below (s₁.setTop F0) t → Steps p.tables e below (s₁.setTop (entryFrame m #[(.ref a1), (.int (3 : Int32)), (.int (2 : Int32)), (.long q4)] 5)) t := fun t k => hF0 ▸ k
  have go0 : Go p e below s₁ F0 s₁ (mkF m 0 #[vr a1, vi (3 : Int32), vi (2 : Int32), vj q4, .second] []) := fun t k => castTop (hF0.trans (ef_2_2_3 m a1 q4)) k
  have go1 : Go p e below s₁ F0 s₁ (mkF m 9 #[vr a1, vi (3 : Int32), vi (2 : Int32), vj q4, .second] [(.int (3 : Int32)), (.ref a1)]) := by
    intro t kt
    refine go0 t ?_
    refine o_iloadN X0 hx (hb hby d2_0) rfl ?_
    refine o_iconst X0 hx (hb hby d2_1) (v := 1) rfl ?_
    refine o_ishrE X0 hx (hb hby d2_2) (v := 1) rfl ?_
    refine o_iloadN X0 hx (hb hby d2_3) rfl ?_
    refine o_icmpNo X0 hx (hb hby d2_4) (feq (by decide : ¬ ((1 : Int32) = (2 : Int32)))).1 ?_
    refine o_aloadN X0 hx (hb hby d2_7) rfl rfl ?_
    refine o_iloadN X0 hx (hb hby d2_8) rfl ?_
    exact kt
  obtain ⟨cl2, Ar2, -, Sz2, Nn2, Hs2, -⟩ := id V0
  have hin2 : ¬ ((3 : Int32) < 0 ∨ cl2.slots.size ≤ ((3 : Int32)).toNatClampNeg) := inb_of Sz2 ⟨by decide, by decide⟩
  have hat2 : cl2.slots[((3 : Int32)).toNatClampNeg]? = some (.int w3) := Hs2.at hin2 rfl
  have go4 : Go p e below s₁ F0 s₁ (mkF m 18 #[vr a1, vi (3 : Int32), vi (2 : Int32), vj q4, .second] [(.int (((q4 >>> ((24 : Int32) &&& 0x3f).toInt64).toInt32).toInt8.toInt32)), (.int w3)]) := by
    intro t kt
    refine go1 t ?_
    refine o_baload X0 hx hZ e0 Ar2 hin2 hat2 (hb hby d2_9) ?_
    refine o_lloadN X0 hx (hb hby d2_10) rfl ?_
    refine o_bipush X0 hx (hb hby d2_11) (v := 8) rfl ?_
    refine o_iloadN X0 hx (hb hby d2_13) rfl ?_
    refine o_imulE X0 hx (hb hby d2_14) (v := 24) rfl ?_
    refine o_lshr X0 hx (hb hby d2_15) ?_
    refine o_l2i X0 hx (hb hby d2_16) ?_
    refine o_i2b X0 hx (hb hby d2_17) ?_
    exact kt
  have hd3 : w3 = (((q4 >>> ((24 : Int32) &&& 0x3f).toInt64).toInt32).toInt8.toInt32) := hv
  have go5 : Go p e below s₁ F0 s₁ (mkF m 26 #[vr a1, vi (3 : Int32), vi (2 : Int32), vj q4, .second] [(.int (1 : Int32))]) := by
    intro t kt
    refine go4 t ?_
    refine o_icmpNo X0 hx (hb hby d2_18) (teq hd3).2 ?_
    refine o_iconst X0 hx (hb hby d2_21) (v := 1) rfl ?_
    refine o_goto X0 hx (hb hby d2_22) (pc' := 26) rfl (by decide) ?_
    exact kt
  obtain ⟨fs, hr, hrun, hended, hW, hsame⟩ := X0.leave (v := some (.int (1 : Int32))) (fun h => by rw [Bd.returns] at h; cases h)
  refine ⟨_, _, pre0 _ (go5 _ ?_), hrun, hended, _, _, rfl, ?_, ⟨_, rfl⟩, hW, hsame.mono (by decide) (by decide)⟩
  · skip
    exact retN X0 hx (t := .boolean) Bd.returns (by simp) (hb hby d2_26) hr
  · show Q2_2_3 Z a1 q4 k1 w0 w1 w2 w3 w4 w5 w6 w7 h0 n0 _ s₁.heap _
    rw [e0]
    exact ⟨rfl, N0, rfl⟩

theorem pn_2_2_4 : plainName "com/example/glottis/glottis/audio/AudioPutPinLaw" = true := by first | (simp [plainName, overriddenIn]; done) | decide +kernel
theorem ef_2_2_4 (m : MethodId) (x0 : Addr) (x3 : Int64) : entryFrame m #[(.ref x0), (.int (4 : Int32)), (.int (2 : Int32)), (.long x3)] 5 = mkF m 0 #[vr x0, vi (4 : Int32), vi (2 : Int32), vj x3, .second] [] := by first | (simp [entryFrame, mkF, argsToLocals, Value.category]; done) | rfl
def Q2_2_4 (Z : State) (a1 : Addr) (q4 : Int64) (k1 : ClassId) (w0 : Int32) (w1 : Int32) (w2 : Int32) (w3 : Int32) (w4 : Int32) (w5 : Int32) (w6 : Int32) (w7 : Int32) (h0 : Heap) (n0 : Nat) (v : Option Value) (h : Heap) (L : List Loc) : Prop := v = some (.int (1 : Int32)) ∧ Fr n0 L ∧ h = h0
set_option maxRecDepth 65536 in
set_option maxHeartbeats 40000000 in
theorem rm2_2_4 (l : Launch) (Z : State) (a0 : Array Value) (hw : ∀ d ∈ tables_1, d.before a0 Z = true) (ws : List Jvm.Cond) (a1 : Addr) (q4 : Int64) (k1 : ClassId) (w0 : Int32) (w1 : Int32) (w2 : Int32) (w3 : Int32) (w4 : Int32) (w5 : Int32) (w6 : Int32) (w7 : Int32) (h0 : Heap) (n0 : Nat) (Z0 : n0 ≤ h0.size) (V0 : Arv Z h0 a1 k1 .byte (8 : Int32) [(.int w0), (.int w1), (.int w2), (.int w3), (.int w4), (.int w5), (.int w6), (.int w7)] (.int (0 : Int32))) :
    MetFree l y_1 (head1 (Jvm.Cond.code y_1 method_2_code 5 (some .boolean) :: ws) ({ frames := 0, cells := 0, slots := 0, locals := 0 } : Room)) (fun a U => a = #[(.ref a1), (.int (4 : Int32)), (.int (2 : Int32)), (.long q4)] ∧ Z.Warmed39 U.vm ∧ U.heap = h0) (fun _ _ _ _ _ => True) (fun _ U o U' => ∃ v L, o = .returned v ∧ Q2_2_4 Z a1 q4 k1 w0 w1 w2 w3 w4 w5 w6 w7 h0 n0 v U'.heap L ∧ FrameEnd U o U' L ({ frames := 0, cells := 0, slots := 0, locals := 0 } : Room).cells ({ frames := 0, cells := 0, slots := 0, locals := 0 } : Room).slots) := by
  refine MetFree.of_bodySF (plainFor_of_name pn_2_2_4) hisR ?_
  intro p e s m args below meth c s₁ Bd hml0 hP hK
  obtain ⟨rfl, hZ, hh⟩ := hP
  have hx := Bd.exec
  have hby := Bd.bytes
  have hml : c.maxLocals = 5 := hml0
  have hown : s.vm.findClass "com/example/glottis/glottis/audio/AudioPutPinLaw" = some m.cls := findClass_of_methodNamed Bd.named
  have hnm := (name_of_methodNamed Bd.named Bd.method).1
  have X0 : Stand p l e ({ frames := 0, cells := 0, slots := 0, locals := 0 } : Room) s m #[(.ref a1), (.int (4 : Int32)), (.int (2 : Int32)), (.long q4)] below meth c s₁ [] 0 0 := Stand.of_body Bd
  have e0 : s₁.heap = h0 := by rw [← hh, Bd.state]; rfl
  have N0 := Fr.nil n0
  obtain ⟨F0, hF0⟩ : ∃ F : JFrame, F = entryFrame m #[(.ref a1), (.int (4 : Int32)), (.int (2 : Int32)), (.long q4)] 5 := ⟨_, rfl⟩
  have pre0 : ∀ t, Steps p.tables e below (s₁.setTop F0) t → Steps p.tables e below (s₁.setTop (entryFrame m #[(.ref a1), (.int (4 : Int32)), (.int (2 : Int32)), (.long q4)] 5)) t := fun t k => hF0 ▸ k
  have go0 : Go p e below s₁ F0 s₁ (mkF m 0 #[vr a1, vi (4 : Int32), vi (2 : Int32), vj q4, .second] []) := fun t k => castTop (hF0.trans (ef_2_2_4 m a1 q4)) k
  have go1 : Go p e below s₁ F0 s₁ (mkF m 26 #[vr a1, vi (4 : Int32), vi (2 : Int32), vj q4, .second] [(.int (1 : Int32))]) := by
    intro t kt
    refine go0 t ?_
    refine o_iloadN X0 hx (hb hby d2_0) rfl ?_
    refine o_iconst X0 hx (hb hby d2_1) (v := 1) rfl ?_
    refine o_ishrE X0 hx (hb hby d2_2) (v := 2) rfl ?_
    refine o_iloadN X0 hx (hb hby d2_3) rfl ?_
    refine o_icmpYes X0 hx (hb hby d2_4) (pc' := 21) rfl (by decide) (teq (by decide : (2 : Int32) = (2 : Int32))).1 ?_
    refine o_iconst X0 hx (hb hby d2_21) (v := 1) rfl ?_
    refine o_goto X0 hx (hb hby d2_22) (pc' := 26) rfl (by decide) ?_
    exact kt
  obtain ⟨fs, hr, hrun, hended, hW, hsame⟩ := X0.leave (v := some (.int (1 : Int32))) (fun h => by rw [Bd.returns] at h; cases h)
  refine ⟨_, _, pre0 _ (go1 _ ?_), hrun, hended, _, _, rfl, ?_, ⟨_, rfl⟩, hW, hsame.mono (by decide) (by decide)⟩
  · skip
    exact retN X0 hx (t := .boolean) Bd.returns (by simp) (hb hby d2_26) hr
  · show Q2_2_4 Z a1 q4 k1 w0 w1 w2 w3 w4 w5 w6 w7 h0 n0 _ s₁.heap _
    rw [e0]
    exact ⟨rfl, N0, rfl⟩

theorem pn_2_2_5 : plainName "com/example/glottis/glottis/audio/AudioPutPinLaw" = true := by first | (simp [plainName, overriddenIn]; done) | decide +kernel
theorem ef_2_2_5 (m : MethodId) (x0 : Addr) (x3 : Int64) : entryFrame m #[(.ref x0), (.int (5 : Int32)), (.int (2 : Int32)), (.long x3)] 5 = mkF m 0 #[vr x0, vi (5 : Int32), vi (2 : Int32), vj x3, .second] [] := by first | (simp [entryFrame, mkF, argsToLocals, Value.category]; done) | rfl
def Q2_2_5 (Z : State) (a1 : Addr) (q4 : Int64) (k1 : ClassId) (w0 : Int32) (w1 : Int32) (w2 : Int32) (w3 : Int32) (w4 : Int32) (w5 : Int32) (w6 : Int32) (w7 : Int32) (h0 : Heap) (n0 : Nat) (v : Option Value) (h : Heap) (L : List Loc) : Prop := v = some (.int (1 : Int32)) ∧ Fr n0 L ∧ h = h0
set_option maxRecDepth 65536 in
set_option maxHeartbeats 40000000 in
theorem rm2_2_5 (l : Launch) (Z : State) (a0 : Array Value) (hw : ∀ d ∈ tables_1, d.before a0 Z = true) (ws : List Jvm.Cond) (a1 : Addr) (q4 : Int64) (k1 : ClassId) (w0 : Int32) (w1 : Int32) (w2 : Int32) (w3 : Int32) (w4 : Int32) (w5 : Int32) (w6 : Int32) (w7 : Int32) (h0 : Heap) (n0 : Nat) (Z0 : n0 ≤ h0.size) (V0 : Arv Z h0 a1 k1 .byte (8 : Int32) [(.int w0), (.int w1), (.int w2), (.int w3), (.int w4), (.int w5), (.int w6), (.int w7)] (.int (0 : Int32))) :
    MetFree l y_1 (head1 (Jvm.Cond.code y_1 method_2_code 5 (some .boolean) :: ws) ({ frames := 0, cells := 0, slots := 0, locals := 0 } : Room)) (fun a U => a = #[(.ref a1), (.int (5 : Int32)), (.int (2 : Int32)), (.long q4)] ∧ Z.Warmed39 U.vm ∧ U.heap = h0) (fun _ _ _ _ _ => True) (fun _ U o U' => ∃ v L, o = .returned v ∧ Q2_2_5 Z a1 q4 k1 w0 w1 w2 w3 w4 w5 w6 w7 h0 n0 v U'.heap L ∧ FrameEnd U o U' L ({ frames := 0, cells := 0, slots := 0, locals := 0 } : Room).cells ({ frames := 0, cells := 0, slots := 0, locals := 0 } : Room).slots) := by
  refine MetFree.of_bodySF (plainFor_of_name pn_2_2_5) hisR ?_
  intro p e s m args below meth c s₁ Bd hml0 hP hK
  obtain ⟨rfl, hZ, hh⟩ := hP
  have hx := Bd.exec
  have hby := Bd.bytes
  have hml : c.maxLocals = 5 := hml0
  have hown : s.vm.findClass "com/example/glottis/glottis/audio/AudioPutPinLaw" = some m.cls := findClass_of_methodNamed Bd.named
  have hnm := (name_of_methodNamed Bd.named Bd.method).1
  have X0 : Stand p l e ({ frames := 0, cells := 0, slots := 0, locals := 0 } : Room) s m #[(.ref a1), (.int (5 : Int32)), (.int (2 : Int32)), (.long q4)] below meth c s₁ [] 0 0 := Stand.of_body Bd
  have e0 : s₁.heap = h0 := by rw [← hh, Bd.state]; rfl
  have N0 := Fr.nil n0
  obtain ⟨F0, hF0⟩ : ∃ F : JFrame, F = entryFrame m #[(.ref a1), (.int (5 : Int32)), (.int (2 : Int32)), (.long q4)] 5 := ⟨_, rfl⟩
  have pre0 : ∀ t, Steps p.tables e below (s₁.setTop F0) t → Steps p.tables e below (s₁.setTop (entryFrame m #[(.ref a1), (.int (5 : Int32)), (.int (2 : Int32)), (.long q4)] 5)) t := fun t k => hF0 ▸ k
  have go0 : Go p e below s₁ F0 s₁ (mkF m 0 #[vr a1, vi (5 : Int32), vi (2 : Int32), vj q4, .second] []) := fun t k => castTop (hF0.trans (ef_2_2_5 m a1 q4)) k
  have go1 : Go p e below s₁ F0 s₁ (mkF m 26 #[vr a1, vi (5 : Int32), vi (2 : Int32), vj q4, .second] [(.int (1 : Int32))]) := by
    intro t kt
    refine go0 t ?_
    refine o_iloadN X0 hx (hb hby d2_0) rfl ?_
    refine o_iconst X0 hx (hb hby d2_1) (v := 1) rfl ?_
    refine o_ishrE X0 hx (hb hby d2_2) (v := 2) rfl ?_
    refine o_iloadN X0 hx (hb hby d2_3) rfl ?_
    refine o_icmpYes X0 hx (hb hby d2_4) (pc' := 21) rfl (by decide) (teq (by decide : (2 : Int32) = (2 : Int32))).1 ?_
    refine o_iconst X0 hx (hb hby d2_21) (v := 1) rfl ?_
    refine o_goto X0 hx (hb hby d2_22) (pc' := 26) rfl (by decide) ?_
    exact kt
  obtain ⟨fs, hr, hrun, hended, hW, hsame⟩ := X0.leave (v := some (.int (1 : Int32))) (fun h => by rw [Bd.returns] at h; cases h)
  refine ⟨_, _, pre0 _ (go1 _ ?_), hrun, hended, _, _, rfl, ?_, ⟨_, rfl⟩, hW, hsame.mono (by decide) (by decide)⟩
  · skip
    exact retN X0 hx (t := .boolean) Bd.returns (by simp) (hb hby d2_26) hr
  · show Q2_2_5 Z a1 q4 k1 w0 w1 w2 w3 w4 w5 w6 w7 h0 n0 _ s₁.heap _
    rw [e0]
    exact ⟨rfl, N0, rfl⟩

theorem pn_2_2_6 : plainName "com/example/glottis/glottis/audio/AudioPutPinLaw" = true := by first | (simp [plainName, overriddenIn]; done) | decide +kernel
theorem ef_2_2_6 (m : MethodId) (x0 : Addr) (x3 : Int64) : entryFrame m #[(.ref x0), (.int (6 : Int32)), (.int (2 : Int32)), (.long x3)] 5 = mkF m 0 #[vr x0, vi (6 : Int32), vi (2 : Int32), vj x3, .second] [] := by first | (simp [entryFrame, mkF, argsToLocals, Value.category]; done) | rfl
def Q2_2_6 (Z : State) (a1 : Addr) (q4 : Int64) (k1 : ClassId) (w0 : Int32) (w1 : Int32) (w2 : Int32) (w3 : Int32) (w4 : Int32) (w5 : Int32) (w6 : Int32) (w7 : Int32) (h0 : Heap) (n0 : Nat) (v : Option Value) (h : Heap) (L : List Loc) : Prop := v = some (.int (1 : Int32)) ∧ Fr n0 L ∧ h = h0
set_option maxRecDepth 65536 in
set_option maxHeartbeats 40000000 in
theorem rm2_2_6 (l : Launch) (Z : State) (a0 : Array Value) (hw : ∀ d ∈ tables_1, d.before a0 Z = true) (ws : List Jvm.Cond) (a1 : Addr) (q4 : Int64) (k1 : ClassId) (w0 : Int32) (w1 : Int32) (w2 : Int32) (w3 : Int32) (w4 : Int32) (w5 : Int32) (w6 : Int32) (w7 : Int32) (h0 : Heap) (n0 : Nat) (Z0 : n0 ≤ h0.size) (V0 : Arv Z h0 a1 k1 .byte (8 : Int32) [(.int w0), (.int w1), (.int w2), (.int w3), (.int w4), (.int w5), (.int w6), (.int w7)] (.int (0 : Int32))) (hv : w6 = ((q4 >>> ((48 : Int32) &&& 0x3f).toInt64).toInt32.toInt8.toInt32)) :
    MetFree l y_1 (head1 (Jvm.Cond.code y_1 method_2_code 5 (some .boolean) :: ws) ({ frames := 0, cells := 0, slots := 0, locals := 0 } : Room)) (fun a U => a = #[(.ref a1), (.int (6 : Int32)), (.int (2 : Int32)), (.long q4)] ∧ Z.Warmed39 U.vm ∧ U.heap = h0) (fun _ _ _ _ _ => True) (fun _ U o U' => ∃ v L, o = .returned v ∧ Q2_2_6 Z a1 q4 k1 w0 w1 w2 w3 w4 w5 w6 w7 h0 n0 v U'.heap L ∧ FrameEnd U o U' L ({ frames := 0, cells := 0, slots := 0, locals := 0 } : Room).cells ({ frames := 0, cells := 0, slots := 0, locals := 0 } : Room).slots) := by
  refine MetFree.of_bodySF (plainFor_of_name pn_2_2_6) hisR ?_
  intro p e s m args below meth c s₁ Bd hml0 hP hK
  obtain ⟨rfl, hZ, hh⟩ := hP
  have hx := Bd.exec
  have hby := Bd.bytes
  have hml : c.maxLocals = 5 := hml0
  have hown : s.vm.findClass "com/example/glottis/glottis/audio/AudioPutPinLaw" = some m.cls := findClass_of_methodNamed Bd.named
  have hnm := (name_of_methodNamed Bd.named Bd.method).1
  have X0 : Stand p l e ({ frames := 0, cells := 0, slots := 0, locals := 0 } : Room) s m #[(.ref a1), (.int (6 : Int32)), (.int (2 : Int32)), (.long q4)] below meth c s₁ [] 0 0 := Stand.of_body Bd
  have e0 : s₁.heap = h0 := by rw [← hh, Bd.state]; rfl
  have N0 := Fr.nil n0
  obtain ⟨F0, hF0⟩ : ∃ F : JFrame, F = entryFrame m #[(.ref a1), (.int (6 : Int32)), (.int (2 : Int32)), (.long q4)] 5 := ⟨_, rfl⟩
  have pre0 : ∀ t, Steps p.tables e below (s₁.setTop F0) t → Steps p.tables e below (s₁.setTop (entryFrame m #[(.ref a1), (.int (6 : Int32)), (.int (2 : Int32)), (.long q4)] 5)) t := fun t k => hF0 ▸ k
  have go0 : Go p e below s₁ F0 s₁ (mkF m 0 #[vr a1, vi (6 : Int32), vi (2 : Int32), vj q4, .second] []) := fun t k => castTop (hF0.trans (ef_2_2_6 m a1 q4)) k
  have go1 : Go p e below s₁ F0 s₁ (mkF m 9 #[vr a1, vi (6 : Int32), vi (2 : Int32), vj q4, .second] [(.int (6 : Int32)), (.ref a1)]) := by
    intro t kt
    refine go0 t ?_
    refine o_iloadN X0 hx (hb hby d2_0) rfl ?_
    refine o_iconst X0 hx (hb hby d2_1) (v := 1) rfl ?_
    refine o_ishrE X0 hx (hb hby d2_2) (v := 3) rfl ?_
    refine o_iloadN X0 hx (hb hby d2_3) rfl ?_
    refine o_icmpNo X0 hx (hb hby d2_4) (feq (by decide : ¬ ((3 : Int32) = (2 : Int32)))).1 ?_
    refine o_aloadN X0 hx (hb hby d2_7) rfl rfl ?_
    refine o_iloadN X0 hx (hb hby d2_8) rfl ?_
    exact kt
  obtain ⟨cl2, Ar2, -, Sz2, Nn2, Hs2, -⟩ := id V0
  have hin2 : ¬ ((6 : Int32) < 0 ∨ cl2.slots.size ≤ ((6 : Int32)).toNatClampNeg) := inb_of Sz2 ⟨by decide, by decide⟩
  have hat2 : cl2.slots[((6 : Int32)).toNatClampNeg]? = some (.int w6) := Hs2.at hin2 rfl
  have go4 : Go p e below s₁ F0 s₁ (mkF m 18 #[vr a1, vi (6 : Int32), vi (2 : Int32), vj q4, .second] [(.int (((q4 >>> ((48 : Int32) &&& 0x3f).toInt64).toInt32).toInt8.toInt32)), (.int w6)]) := by
    intro t kt
    refine go1 t ?_
    refine o_baload X0 hx hZ e0 Ar2 hin2 hat2 (hb hby d2_9) ?_
    refine o_lloadN X0 hx (hb hby d2_10) rfl ?_
    refine o_bipush X0 hx (hb hby d2_11) (v := 8) rfl ?_
    refine o_iloadN X0 hx (hb hby d2_13) rfl ?_
    refine o_imulE X0 hx (hb hby d2_14) (v := 48) rfl ?_
    refine o_lshr X0 hx (hb hby d2_15) ?_
    refine o_l2i X0 hx (hb hby d2_16) ?_
    refine o_i2b X0 hx (hb hby d2_17) ?_
    exact kt
  have hd3 : w6 = (((q4 >>> ((48 : Int32) &&& 0x3f).toInt64).toInt32).toInt8.toInt32) := hv
  have go5 : Go p e below s₁ F0 s₁ (mkF m 26 #[vr a1, vi (6 : Int32), vi (2 : Int32), vj q4, .second] [(.int (1 : Int32))]) := by
    intro t kt
    refine go4 t ?_
    refine o_icmpNo X0 hx (hb hby d2_18) (teq hd3).2 ?_
    refine o_iconst X0 hx (hb hby d2_21) (v := 1) rfl ?_
    refine o_goto X0 hx (hb hby d2_22) (pc' := 26) rfl (by decide) ?_
    exact kt
  obtain ⟨fs, hr, hrun, hended, hW, hsame⟩ := X0.leave (v := some (.int (1 : Int32))) (fun h => by rw [Bd.returns] at h; cases h)
  refine ⟨_, _, pre0 _ (go5 _ ?_), hrun, hended, _, _, rfl, ?_, ⟨_, rfl⟩, hW, hsame.mono (by decide) (by decide)⟩
  · skip
    exact retN X0 hx (t := .boolean) Bd.returns (by simp) (hb hby d2_26) hr
  · show Q2_2_6 Z a1 q4 k1 w0 w1 w2 w3 w4 w5 w6 w7 h0 n0 _ s₁.heap _
    rw [e0]
    exact ⟨rfl, N0, rfl⟩

theorem pn_2_2_7 : plainName "com/example/glottis/glottis/audio/AudioPutPinLaw" = true := by first | (simp [plainName, overriddenIn]; done) | decide +kernel
theorem ef_2_2_7 (m : MethodId) (x0 : Addr) (x3 : Int64) : entryFrame m #[(.ref x0), (.int (7 : Int32)), (.int (2 : Int32)), (.long x3)] 5 = mkF m 0 #[vr x0, vi (7 : Int32), vi (2 : Int32), vj x3, .second] [] := by first | (simp [entryFrame, mkF, argsToLocals, Value.category]; done) | rfl
def Q2_2_7 (Z : State) (a1 : Addr) (q4 : Int64) (k1 : ClassId) (w0 : Int32) (w1 : Int32) (w2 : Int32) (w3 : Int32) (w4 : Int32) (w5 : Int32) (w6 : Int32) (w7 : Int32) (h0 : Heap) (n0 : Nat) (v : Option Value) (h : Heap) (L : List Loc) : Prop := v = some (.int (1 : Int32)) ∧ Fr n0 L ∧ h = h0
set_option maxRecDepth 65536 in
set_option maxHeartbeats 40000000 in
theorem rm2_2_7 (l : Launch) (Z : State) (a0 : Array Value) (hw : ∀ d ∈ tables_1, d.before a0 Z = true) (ws : List Jvm.Cond) (a1 : Addr) (q4 : Int64) (k1 : ClassId) (w0 : Int32) (w1 : Int32) (w2 : Int32) (w3 : Int32) (w4 : Int32) (w5 : Int32) (w6 : Int32) (w7 : Int32) (h0 : Heap) (n0 : Nat) (Z0 : n0 ≤ h0.size) (V0 : Arv Z h0 a1 k1 .byte (8 : Int32) [(.int w0), (.int w1), (.int w2), (.int w3), (.int w4), (.int w5), (.int w6), (.int w7)] (.int (0 : Int32))) (hv : w7 = ((q4 >>> ((56 : Int32) &&& 0x3f).toInt64).toInt32.toInt8.toInt32)) :
    MetFree l y_1 (head1 (Jvm.Cond.code y_1 method_2_code 5 (some .boolean) :: ws) ({ frames := 0, cells := 0, slots := 0, locals := 0 } : Room)) (fun a U => a = #[(.ref a1), (.int (7 : Int32)), (.int (2 : Int32)), (.long q4)] ∧ Z.Warmed39 U.vm ∧ U.heap = h0) (fun _ _ _ _ _ => True) (fun _ U o U' => ∃ v L, o = .returned v ∧ Q2_2_7 Z a1 q4 k1 w0 w1 w2 w3 w4 w5 w6 w7 h0 n0 v U'.heap L ∧ FrameEnd U o U' L ({ frames := 0, cells := 0, slots := 0, locals := 0 } : Room).cells ({ frames := 0, cells := 0, slots := 0, locals := 0 } : Room).slots) := by
  refine MetFree.of_bodySF (plainFor_of_name pn_2_2_7) hisR ?_
  intro p e s m args below meth c s₁ Bd hml0 hP hK
  obtain ⟨rfl, hZ, hh⟩ := hP
  have hx := Bd.exec
  have hby := Bd.bytes
  have hml : c.maxLocals = 5 := hml0
  have hown : s.vm.findClass "com/example/glottis/glottis/audio/AudioPutPinLaw" = some m.cls := findClass_of_methodNamed Bd.named
  have hnm := (name_of_methodNamed Bd.named Bd.method).1
  have X0 : Stand p l e ({ frames := 0, cells := 0, slots := 0, locals := 0 } : Room) s m #[(.ref a1), (.int (7 : Int32)), (.int (2 : Int32)), (.long q4)] below meth c s₁ [] 0 0 := Stand.of_body Bd
  have e0 : s₁.heap = h0 := by rw [← hh, Bd.state]; rfl
  have N0 := Fr.nil n0
  obtain ⟨F0, hF0⟩ : ∃ F : JFrame, F = entryFrame m #[(.ref a1), (.int (7 : Int32)), (.int (2 : Int32)), (.long q4)] 5 := ⟨_, rfl⟩
  have pre0 : ∀ t, Steps p.tables e below (s₁.setTop F0) t → Steps p.tables e below (s₁.setTop (entryFrame m #[(.ref a1), (.int (7 : Int32)), (.int (2 : Int32)), (.long q4)] 5)) t := fun t k => hF0 ▸ k
  have go0 : Go p e below s₁ F0 s₁ (mkF m 0 #[vr a1, vi (7 : Int32), vi (2 : Int32), vj q4, .second] []) := fun t k => castTop (hF0.trans (ef_2_2_7 m a1 q4)) k
  have go1 : Go p e below s₁ F0 s₁ (mkF m 9 #[vr a1, vi (7 : Int32), vi (2 : Int32), vj q4, .second] [(.int (7 : Int32)), (.ref a1)]) := by
    intro t kt
    refine go0 t ?_
    refine o_iloadN X0 hx (hb hby d2_0) rfl ?_
    refine o_iconst X0 hx (hb hby d2_1) (v := 1) rfl ?_
    refine o_ishrE X0 hx (hb hby d2_2) (v := 3) rfl ?_
    refine o_iloadN X0 hx (hb hby d2_3) rfl ?_
    refine o_icmpNo X0 hx (hb hby d2_4) (feq (by decide : ¬ ((3 : Int32) = (2 : Int32)))).1 ?_
    refine o_aloadN X0 hx (hb hby d2_7) rfl rfl ?_
    refine o_iloadN X0 hx (hb hby d2_8) rfl ?_
    exact kt
  obtain ⟨cl2, Ar2, -, Sz2, Nn2, Hs2, -⟩ := id V0
  have hin2 : ¬ ((7 : Int32) < 0 ∨ cl2.slots.size ≤ ((7 : Int32)).toNatClampNeg) := inb_of Sz2 ⟨by decide, by decide⟩
  have hat2 : cl2.slots[((7 : Int32)).toNatClampNeg]? = some (.int w7) := Hs2.at hin2 rfl
  have go4 : Go p e below s₁ F0 s₁ (mkF m 18 #[vr a1, vi (7 : Int32), vi (2 : Int32), vj q4, .second] [(.int (((q4 >>> ((56 : Int32) &&& 0x3f).toInt64).toInt32).toInt8.toInt32)), (.int w7)]) := by
    intro t kt
    refine go1 t ?_
    refine o_baload X0 hx hZ e0 Ar2 hin2 hat2 (hb hby d2_9) ?_
    refine o_lloadN X0 hx (hb hby d2_10) rfl ?_
    refine o_bipush X0 hx (hb hby d2_11) (v := 8) rfl ?_
    refine o_iloadN X0 hx (hb hby d2_13) rfl ?_
    refine o_imulE X0 hx (hb hby d2_14) (v := 56) rfl ?_
    refine o_lshr X0 hx (hb hby d2_15) ?_
    refine o_l2i X0 hx (hb hby d2_16) ?_
    refine o_i2b X0 hx (hb hby d2_17) ?_
    exact kt
  have hd3 : w7 = (((q4 >>> ((56 : Int32) &&& 0x3f).toInt64).toInt32).toInt8.toInt32) := hv
  have go5 : Go p e below s₁ F0 s₁ (mkF m 26 #[vr a1, vi (7 : Int32), vi (2 : Int32), vj q4, .second] [(.int (1 : Int32))]) := by
    intro t kt
    refine go4 t ?_
    refine o_icmpNo X0 hx (hb hby d2_18) (teq hd3).2 ?_
    refine o_iconst X0 hx (hb hby d2_21) (v := 1) rfl ?_
    refine o_goto X0 hx (hb hby d2_22) (pc' := 26) rfl (by decide) ?_
    exact kt
  obtain ⟨fs, hr, hrun, hended, hW, hsame⟩ := X0.leave (v := some (.int (1 : Int32))) (fun h => by rw [Bd.returns] at h; cases h)
  refine ⟨_, _, pre0 _ (go5 _ ?_), hrun, hended, _, _, rfl, ?_, ⟨_, rfl⟩, hW, hsame.mono (by decide) (by decide)⟩
  · skip
    exact retN X0 hx (t := .boolean) Bd.returns (by simp) (hb hby d2_26) hr
  · show Q2_2_7 Z a1 q4 k1 w0 w1 w2 w3 w4 w5 w6 w7 h0 n0 _ s₁.heap _
    rw [e0]
    exact ⟨rfl, N0, rfl⟩

theorem pn_2_3_0 : plainName "com/example/glottis/glottis/audio/AudioPutPinLaw" = true := by first | (simp [plainName, overriddenIn]; done) | decide +kernel
theorem ef_2_3_0 (m : MethodId) (x0 : Addr) (x3 : Int64) : entryFrame m #[(.ref x0), (.int (0 : Int32)), (.int (3 : Int32)), (.long x3)] 5 = mkF m 0 #[vr x0, vi (0 : Int32), vi (3 : Int32), vj x3, .second] [] := by first | (simp [entryFrame, mkF, argsToLocals, Value.category]; done) | rfl
def Q2_3_0 (Z : State) (a1 : Addr) (q4 : Int64) (k1 : ClassId) (w0 : Int32) (w1 : Int32) (w2 : Int32) (w3 : Int32) (w4 : Int32) (w5 : Int32) (w6 : Int32) (w7 : Int32) (h0 : Heap) (n0 : Nat) (v : Option Value) (h : Heap) (L : List Loc) : Prop := v = some (.int (1 : Int32)) ∧ Fr n0 L ∧ h = h0
set_option maxRecDepth 65536 in
set_option maxHeartbeats 40000000 in
theorem rm2_3_0 (l : Launch) (Z : State) (a0 : Array Value) (hw : ∀ d ∈ tables_1, d.before a0 Z = true) (ws : List Jvm.Cond) (a1 : Addr) (q4 : Int64) (k1 : ClassId) (w0 : Int32) (w1 : Int32) (w2 : Int32) (w3 : Int32) (w4 : Int32) (w5 : Int32) (w6 : Int32) (w7 : Int32) (h0 : Heap) (n0 : Nat) (Z0 : n0 ≤ h0.size) (V0 : Arv Z h0 a1 k1 .byte (8 : Int32) [(.int w0), (.int w1), (.int w2), (.int w3), (.int w4), (.int w5), (.int w6), (.int w7)] (.int (0 : Int32))) (hv : w0 = ((q4 >>> ((0 : Int32) &&& 0x3f).toInt64).toInt32.toInt8.toInt32)) :
    MetFree l y_1 (head1 (Jvm.Cond.code y_1 method_2_code 5 (some .boolean) :: ws) ({ frames := 0, cells := 0, slots := 0, locals := 0 } : Room)) (fun a U => a = #[(.ref a1), (.int (0 : Int32)), (.int (3 : Int32)), (.long q4)] ∧ Z.Warmed39 U.vm ∧ U.heap = h0) (fun _ _ _ _ _ => True) (fun _ U o U' => ∃ v L, o = .returned v ∧ Q2_3_0 Z a1 q4 k1 w0 w1 w2 w3 w4 w5 w6 w7 h0 n0 v U'.heap L ∧ FrameEnd U o U' L ({ frames := 0, cells := 0, slots := 0, locals := 0 } : Room).cells ({ frames := 0, cells := 0, slots := 0, locals := 0 } : Room).slots) := by
  refine MetFree.of_bodySF (plainFor_of_name pn_2_3_0) hisR ?_
  intro p e s m args below meth c s₁ Bd hml0 hP hK
  obtain ⟨rfl, hZ, hh⟩ := hP
  have hx := Bd.exec
  have hby := Bd.bytes
  have hml : c.maxLocals = 5 := hml0
  have hown : s.vm.findClass "com/example/glottis/glottis/audio/AudioPutPinLaw" = some m.cls := findClass_of_methodNamed Bd.named
  have hnm := (name_of_methodNamed Bd.named Bd.method).1
  have X0 : Stand p l e ({ frames := 0, cells := 0, slots := 0, locals := 0 } : Room) s m #[(.ref a1), (.int (0 : Int32)), (.int (3 : Int32)), (.long q4)] below meth c s₁ [] 0 0 := Stand.of_body Bd
  have e0 : s₁.heap = h0 := by rw [← hh, Bd.state]; rfl
  have N0 := Fr.nil n0
  obtain ⟨F0, hF0⟩ : ∃ F : JFrame, F = entryFrame m #[(.ref a1), (.int (0 : Int32)), (.int (3 : Int32)), (.long q4)] 5 := ⟨_, rfl⟩
  have pre0 : ∀ t, Steps p.tables e below (s₁.setTop F0) t → Steps p.tables e below (s₁.setTop (entryFrame m #[(.ref a1), (.int (0 : Int32)), (.int (3 : Int32)), (.long q4)] 5)) t := fun t k => hF0 ▸ k
  have go0 : Go p e below s₁ F0 s₁ (mkF m 0 #[vr a1, vi (0 : Int32), vi (3 : Int32), vj q4, .second] []) := fun t k => castTop (hF0.trans (ef_2_3_0 m a1 q4)) k
  have go1 : Go p e below s₁ F0 s₁ (mkF m 9 #[vr a1, vi (0 : Int32), vi (3 : Int32), vj q4, .second] [(.int (0 : Int32)), (.ref a1)]) := by
    intro t kt
    refine go0 t ?_
    refine o_iloadN X0 hx (hb hby d2_0) rfl ?_
    refine o_iconst X0 hx (hb hby d2_1) (v := 1) rfl ?_
    refine o_ishrE X0 hx (hb hby d2_2) (v := 0) rfl ?_
    refine o_iloadN X0 hx (hb hby d2_3) rfl ?_
    refine o_icmpNo X0 hx (hb hby d2_4) (feq (by decide : ¬ ((0 : Int32) = (3 : Int32)))).1 ?_
    refine o_aloadN X0 hx (hb hby d2_7) rfl rfl ?_
    refine o_iloadN X0 hx (hb hby d2_8) rfl ?_
    exact kt
  obtain ⟨cl2, Ar2, -, Sz2, Nn2, Hs2, -⟩ := id V0
  have hin2 : ¬ ((0 : Int32) < 0 ∨ cl2.slots.size ≤ ((0 : Int32)).toNatClampNeg) := inb_of Sz2 ⟨by decide, by decide⟩
  have hat2 : cl2.slots[((0 : Int32)).toNatClampNeg]? = some (.int w0) := Hs2.at hin2 rfl
  have go4 : Go p e below s₁ F0 s₁ (mkF m 18 #[vr a1, vi (0 : Int32), vi (3 : Int32), vj q4, .second] [(.int (((q4 >>> ((0 : Int32) &&& 0x3f).toInt64).toInt32).toInt8.toInt32)), (.int w0)]) := by
    intro t kt
    refine go1 t ?_
    refine o_baload X0 hx hZ e0 Ar2 hin2 hat2 (hb hby d2_9) ?_
    refine o_lloadN X0 hx (hb hby d2_10) rfl ?_
    refine o_bipush X0 hx (hb hby d2_11) (v := 8) rfl ?_
    refine o_iloadN X0 hx (hb hby d2_13) rfl ?_
    refine o_imulE X0 hx (hb hby d2_14) (v := 0) rfl ?_
    refine o_lshr X0 hx (hb hby d2_15) ?_
    refine o_l2i X0 hx (hb hby d2_16) ?_
    refine o_i2b X0 hx (hb hby d2_17) ?_
    exact kt
  have hd3 : w0 = (((q4 >>> ((0 : Int32) &&& 0x3f).toInt64).toInt32).toInt8.toInt32) := hv
  have go5 : Go p e below s₁ F0 s₁ (mkF m 26 #[vr a1, vi (0 : Int32), vi (3 : Int32), vj q4, .second] [(.int (1 : Int32))]) := by
    intro t kt
    refine go4 t ?_
    refine o_icmpNo X0 hx (hb hby d2_18) (teq hd3).2 ?_
    refine o_iconst X0 hx (hb hby d2_21) (v := 1) rfl ?_
    refine o_goto X0 hx (hb hby d2_22) (pc' := 26) rfl (by decide) ?_
    exact kt
  obtain ⟨fs, hr, hrun, hended, hW, hsame⟩ := X0.leave (v := some (.int (1 : Int32))) (fun h => by rw [Bd.returns] at h; cases h)
  refine ⟨_, _, pre0 _ (go5 _ ?_), hrun, hended, _, _, rfl, ?_, ⟨_, rfl⟩, hW, hsame.mono (by decide) (by decide)⟩
  · skip
    exact retN X0 hx (t := .boolean) Bd.returns (by simp) (hb hby d2_26) hr
  · show Q2_3_0 Z a1 q4 k1 w0 w1 w2 w3 w4 w5 w6 w7 h0 n0 _ s₁.heap _
    rw [e0]
    exact ⟨rfl, N0, rfl⟩

theorem pn_2_3_1 : plainName "com/example/glottis/glottis/audio/AudioPutPinLaw" = true := by first | (simp [plainName, overriddenIn]; done) | decide +kernel
theorem ef_2_3_1 (m : MethodId) (x0 : Addr) (x3 : Int64) : entryFrame m #[(.ref x0), (.int (1 : Int32)), (.int (3 : Int32)), (.long x3)] 5 = mkF m 0 #[vr x0, vi (1 : Int32), vi (3 : Int32), vj x3, .second] [] := by first | (simp [entryFrame, mkF, argsToLocals, Value.category]; done) | rfl
def Q2_3_1 (Z : State) (a1 : Addr) (q4 : Int64) (k1 : ClassId) (w0 : Int32) (w1 : Int32) (w2 : Int32) (w3 : Int32) (w4 : Int32) (w5 : Int32) (w6 : Int32) (w7 : Int32) (h0 : Heap) (n0 : Nat) (v : Option Value) (h : Heap) (L : List Loc) : Prop := v = some (.int (1 : Int32)) ∧ Fr n0 L ∧ h = h0
set_option maxRecDepth 65536 in
set_option maxHeartbeats 40000000 in
theorem rm2_3_1 (l : Launch) (Z : State) (a0 : Array Value) (hw : ∀ d ∈ tables_1, d.before a0 Z = true) (ws : List Jvm.Cond) (a1 : Addr) (q4 : Int64) (k1 : ClassId) (w0 : Int32) (w1 : Int32) (w2 : Int32) (w3 : Int32) (w4 : Int32) (w5 : Int32) (w6 : Int32) (w7 : Int32) (h0 : Heap) (n0 : Nat) (Z0 : n0 ≤ h0.size) (V0 : Arv Z h0 a1 k1 .byte (8 : Int32) [(.int w0), (.int w1), (.int w2), (.int w3), (.int w4), (.int w5), (.int w6), (.int w7)] (.int (0 : Int32))) (hv : w1 = ((q4 >>> ((8 : Int32) &&& 0x3f).toInt64).toInt32.toInt8.toInt32)) :
    MetFree l y_1 (head1 (Jvm.Cond.code y_1 method_2_code 5 (some .boolean) :: ws) ({ frames := 0, cells := 0, slots := 0, locals := 0 } : Room)) (fun a U => a = #[(.ref a1), (.int (1 : Int32)), (.int (3 : Int32)), (.long q4)] ∧ Z.Warmed39 U.vm ∧ U.heap = h0) (fun _ _ _ _ _ => True) (fun _ U o U' => ∃ v L, o = .returned v ∧ Q2_3_1 Z a1 q4 k1 w0 w1 w2 w3 w4 w5 w6 w7 h0 n0 v U'.heap L ∧ FrameEnd U o U' L ({ frames := 0, cells := 0, slots := 0, locals := 0 } : Room).cells ({ frames := 0, cells := 0, slots := 0, locals := 0 } : Room).slots) := by
  refine MetFree.of_bodySF (plainFor_of_name pn_2_3_1) hisR ?_
  intro p e s m args below meth c s₁ Bd hml0 hP hK
  obtain ⟨rfl, hZ, hh⟩ := hP
  have hx := Bd.exec
  have hby := Bd.bytes
  have hml : c.maxLocals = 5 := hml0
  have hown : s.vm.findClass "com/example/glottis/glottis/audio/AudioPutPinLaw" = some m.cls := findClass_of_methodNamed Bd.named
  have hnm := (name_of_methodNamed Bd.named Bd.method).1
  have X0 : Stand p l e ({ frames := 0, cells := 0, slots := 0, locals := 0 } : Room) s m #[(.ref a1), (.int (1 : Int32)), (.int (3 : Int32)), (.long q4)] below meth c s₁ [] 0 0 := Stand.of_body Bd
  have e0 : s₁.heap = h0 := by rw [← hh, Bd.state]; rfl
  have N0 := Fr.nil n0
  obtain ⟨F0, hF0⟩ : ∃ F : JFrame, F = entryFrame m #[(.ref a1), (.int (1 : Int32)), (.int (3 : Int32)), (.long q4)] 5 := ⟨_, rfl⟩
  have pre0 : ∀ t, Steps p.tables e below (s₁.setTop F0) t → Steps p.tables e below (s₁.setTop (entryFrame m #[(.ref a1), (.int (1 : Int32)), (.int (3 : Int32)), (.long q4)] 5)) t := fun t k => hF0 ▸ k
  have go0 : Go p e below s₁ F0 s₁ (mkF m 0 #[vr a1, vi (1 : Int32), vi (3 : Int32), vj q4, .second] []) := fun t k => castTop (hF0.trans (ef_2_3_1 m a1 q4)) k
  have go1 : Go p e below s₁ F0 s₁ (mkF m 9 #[vr a1, vi (1 : Int32), vi (3 : Int32), vj q4, .second] [(.int (1 : Int32)), (.ref a1)]) := by
    intro t kt
    refine go0 t ?_
    refine o_iloadN X0 hx (hb hby d2_0) rfl ?_
    refine o_iconst X0 hx (hb hby d2_1) (v := 1) rfl ?_
    refine o_ishrE X0 hx (hb hby d2_2) (v := 0) rfl ?_
    refine o_iloadN X0 hx (hb hby d2_3) rfl ?_
    refine o_icmpNo X0 hx (hb hby d2_4) (feq (by decide : ¬ ((0 : Int32) = (3 : Int32)))).1 ?_
    refine o_aloadN X0 hx (hb hby d2_7) rfl rfl ?_
    refine o_iloadN X0 hx (hb hby d2_8) rfl ?_
    exact kt
  obtain ⟨cl2, Ar2, -, Sz2, Nn2, Hs2, -⟩ := id V0
  have hin2 : ¬ ((1 : Int32) < 0 ∨ cl2.slots.size ≤ ((1 : Int32)).toNatClampNeg) := inb_of Sz2 ⟨by decide, by decide⟩
  have hat2 : cl2.slots[((1 : Int32)).toNatClampNeg]? = some (.int w1) := Hs2.at hin2 rfl
  have go4 : Go p e below s₁ F0 s₁ (mkF m 18 #[vr a1, vi (1 : Int32), vi (3 : Int32), vj q4, .second] [(.int (((q4 >>> ((8 : Int32) &&& 0x3f).toInt64).toInt32).toInt8.toInt32)), (.int w1)]) := by
    intro t kt
    refine go1 t ?_
    refine o_baload X0 hx hZ e0 Ar2 hin2 hat2 (hb hby d2_9) ?_
    refine o_lloadN X0 hx (hb hby d2_10) rfl ?_
    refine o_bipush X0 hx (hb hby d2_11) (v := 8) rfl ?_
    refine o_iloadN X0 hx (hb hby d2_13) rfl ?_
    refine o_imulE X0 hx (hb hby d2_14) (v := 8) rfl ?_
    refine o_lshr X0 hx (hb hby d2_15) ?_
    refine o_l2i X0 hx (hb hby d2_16) ?_
    refine o_i2b X0 hx (hb hby d2_17) ?_
    exact kt
  have hd3 : w1 = (((q4 >>> ((8 : Int32) &&& 0x3f).toInt64).toInt32).toInt8.toInt32) := hv
  have go5 : Go p e below s₁ F0 s₁ (mkF m 26 #[vr a1, vi (1 : Int32), vi (3 : Int32), vj q4, .second] [(.int (1 : Int32))]) := by
    intro t kt
    refine go4 t ?_
    refine o_icmpNo X0 hx (hb hby d2_18) (teq hd3).2 ?_
    refine o_iconst X0 hx (hb hby d2_21) (v := 1) rfl ?_
    refine o_goto X0 hx (hb hby d2_22) (pc' := 26) rfl (by decide) ?_
    exact kt
  obtain ⟨fs, hr, hrun, hended, hW, hsame⟩ := X0.leave (v := some (.int (1 : Int32))) (fun h => by rw [Bd.returns] at h; cases h)
  refine ⟨_, _, pre0 _ (go5 _ ?_), hrun, hended, _, _, rfl, ?_, ⟨_, rfl⟩, hW, hsame.mono (by decide) (by decide)⟩
  · skip
    exact retN X0 hx (t := .boolean) Bd.returns (by simp) (hb hby d2_26) hr
  · show Q2_3_1 Z a1 q4 k1 w0 w1 w2 w3 w4 w5 w6 w7 h0 n0 _ s₁.heap _
    rw [e0]
    exact ⟨rfl, N0, rfl⟩

theorem pn_2_3_2 : plainName "com/example/glottis/glottis/audio/AudioPutPinLaw" = true := by first | (simp [plainName, overriddenIn]; done) | decide +kernel
theorem ef_2_3_2 (m : MethodId) (x0 : Addr) (x3 : Int64) : entryFrame m #[(.ref x0), (.int (2 : Int32)), (.int (3 : Int32)), (.long x3)] 5 = mkF m 0 #[vr x0, vi (2 : Int32), vi (3 : Int32), vj x3, .second] [] := by first | (simp [entryFrame, mkF, argsToLocals, Value.category]; done) | rfl
def Q2_3_2 (Z : State) (a1 : Addr) (q4 : Int64) (k1 : ClassId) (w0 : Int32) (w1 : Int32) (w2 : Int32) (w3 : Int32) (w4 : Int32) (w5 : Int32) (w6 : Int32) (w7 : Int32) (h0 : Heap) (n0 : Nat) (v : Option Value) (h : Heap) (L : List Loc) : Prop := v = some (.int (1 : Int32)) ∧ Fr n0 L ∧ h = h0
set_option maxRecDepth 65536 in
set_option maxHeartbeats 40000000 in
theorem rm2_3_2 (l : Launch) (Z : State) (a0 : Array Value) (hw : ∀ d ∈ tables_1, d.before a0 Z = true) (ws : List Jvm.Cond) (a1 : Addr) (q4 : Int64) (k1 : ClassId) (w0 : Int32) (w1 : Int32) (w2 : Int32) (w3 : Int32) (w4 : Int32) (w5 : Int32) (w6 : Int32) (w7 : Int32) (h0 : Heap) (n0 : Nat) (Z0 : n0 ≤ h0.size) (V0 : Arv Z h0 a1 k1 .byte (8 : Int32) [(.int w0), (.int w1), (.int w2), (.int w3), (.int w4), (.int w5), (.int w6), (.int w7)] (.int (0 : Int32))) (hv : w2 = ((q4 >>> ((16 : Int32) &&& 0x3f).toInt64).toInt32.toInt8.toInt32)) :
    MetFree l y_1 (head1 (Jvm.Cond.code y_1 method_2_code 5 (some .boolean) :: ws) ({ frames := 0, cells := 0, slots := 0, locals := 0 } : Room)) (fun a U => a = #[(.ref a1), (.int (2 : Int32)), (.int (3 : Int32)), (.long q4)] ∧ Z.Warmed39 U.vm ∧ U.heap = h0) (fun _ _ _ _ _ => True) (fun _ U o U' => ∃ v L, o = .returned v ∧ Q2_3_2 Z a1 q4 k1 w0 w1 w2 w3 w4 w5 w6 w7 h0 n0 v U'.heap L ∧ FrameEnd U o U' L ({ frames := 0, cells := 0, slots := 0, locals := 0 } : Room).cells ({ frames := 0, cells := 0, slots := 0, locals := 0 } : Room).slots) := by
  refine MetFree.of_bodySF (plainFor_of_name pn_2_3_2) hisR ?_
  intro p e s m args below meth c s₁ Bd hml0 hP hK
  obtain ⟨rfl, hZ, hh⟩ := hP
  have hx := Bd.exec
  have hby := Bd.bytes
  have hml : c.maxLocals = 5 := hml0
  have hown : s.vm.findClass "com/example/glottis/glottis/audio/AudioPutPinLaw" = some m.cls := findClass_of_methodNamed Bd.named
  have hnm := (name_of_methodNamed Bd.named Bd.method).1
  have X0 : Stand p l e ({ frames := 0, cells := 0, slots := 0, locals := 0 } : Room) s m #[(.ref a1), (.int (2 : Int32)), (.int (3 : Int32)), (.long q4)] below meth c s₁ [] 0 0 := Stand.of_body Bd
  have e0 : s₁.heap = h0 := by rw [← hh, Bd.state]; rfl
  have N0 := Fr.nil n0
  obtain ⟨F0, hF0⟩ : ∃ F : JFrame, F = entryFrame m #[(.ref a1), (.int (2 : Int32)), (.int (3 : Int32)), (.long q4)] 5 := ⟨_, rfl⟩
  have pre0 : ∀ t, Steps p.tables e below (s₁.setTop F0) t → Steps p.tables e below (s₁.setTop (entryFrame m #[(.ref a1), (.int (2 : Int32)), (.int (3 : Int32)), (.long q4)] 5)) t := fun t k => hF0 ▸ k
  have go0 : Go p e below s₁ F0 s₁ (mkF m 0 #[vr a1, vi (2 : Int32), vi (3 : Int32), vj q4, .second] []) := fun t k => castTop (hF0.trans (ef_2_3_2 m a1 q4)) k
  have go1 : Go p e below s₁ F0 s₁ (mkF m 9 #[vr a1, vi (2 : Int32), vi (3 : Int32), vj q4, .second] [(.int (2 : Int32)), (.ref a1)]) := by
    intro t kt
    refine go0 t ?_
    refine o_iloadN X0 hx (hb hby d2_0) rfl ?_
    refine o_iconst X0 hx (hb hby d2_1) (v := 1) rfl ?_
    refine o_ishrE X0 hx (hb hby d2_2) (v := 1) rfl ?_
    refine o_iloadN X0 hx (hb hby d2_3) rfl ?_
    refine o_icmpNo X0 hx (hb hby d2_4) (feq (by decide : ¬ ((1 : Int32) = (3 : Int32)))).1 ?_
    refine o_aloadN X0 hx (hb hby d2_7) rfl rfl ?_
    refine o_iloadN X0 hx (hb hby d2_8) rfl ?_
    exact kt
  obtain ⟨cl2, Ar2, -, Sz2, Nn2, Hs2, -⟩ := id V0
  have hin2 : ¬ ((2 : Int32) < 0 ∨ cl2.slots.size ≤ ((2 : Int32)).toNatClampNeg) := inb_of Sz2 ⟨by decide, by decide⟩
  have hat2 : cl2.slots[((2 : Int32)).toNatClampNeg]? = some (.int w2) := Hs2.at hin2 rfl
  have go4 : Go p e below s₁ F0 s₁ (mkF m 18 #[vr a1, vi (2 : Int32), vi (3 : Int32), vj q4, .second] [(.int (((q4 >>> ((16 : Int32) &&& 0x3f).toInt64).toInt32).toInt8.toInt32)), (.int w2)]) := by
    intro t kt
    refine go1 t ?_
    refine o_baload X0 hx hZ e0 Ar2 hin2 hat2 (hb hby d2_9) ?_
    refine o_lloadN X0 hx (hb hby d2_10) rfl ?_
    refine o_bipush X0 hx (hb hby d2_11) (v := 8) rfl ?_
    refine o_iloadN X0 hx (hb hby d2_13) rfl ?_
    refine o_imulE X0 hx (hb hby d2_14) (v := 16) rfl ?_
    refine o_lshr X0 hx (hb hby d2_15) ?_
    refine o_l2i X0 hx (hb hby d2_16) ?_
    refine o_i2b X0 hx (hb hby d2_17) ?_
    exact kt
  have hd3 : w2 = (((q4 >>> ((16 : Int32) &&& 0x3f).toInt64).toInt32).toInt8.toInt32) := hv
  have go5 : Go p e below s₁ F0 s₁ (mkF m 26 #[vr a1, vi (2 : Int32), vi (3 : Int32), vj q4, .second] [(.int (1 : Int32))]) := by
    intro t kt
    refine go4 t ?_
    refine o_icmpNo X0 hx (hb hby d2_18) (teq hd3).2 ?_
    refine o_iconst X0 hx (hb hby d2_21) (v := 1) rfl ?_
    refine o_goto X0 hx (hb hby d2_22) (pc' := 26) rfl (by decide) ?_
    exact kt
  obtain ⟨fs, hr, hrun, hended, hW, hsame⟩ := X0.leave (v := some (.int (1 : Int32))) (fun h => by rw [Bd.returns] at h; cases h)
  refine ⟨_, _, pre0 _ (go5 _ ?_), hrun, hended, _, _, rfl, ?_, ⟨_, rfl⟩, hW, hsame.mono (by decide) (by decide)⟩
  · skip
    exact retN X0 hx (t := .boolean) Bd.returns (by simp) (hb hby d2_26) hr
  · show Q2_3_2 Z a1 q4 k1 w0 w1 w2 w3 w4 w5 w6 w7 h0 n0 _ s₁.heap _
    rw [e0]
    exact ⟨rfl, N0, rfl⟩

theorem pn_2_3_3 : plainName "com/example/glottis/glottis/audio/AudioPutPinLaw" = true := by first | (simp [plainName, overriddenIn]; done) | decide +kernel
theorem ef_2_3_3 (m : MethodId) (x0 : Addr) (x3 : Int64) : entryFrame m #[(.ref x0), (.int (3 : Int32)), (.int (3 : Int32)), (.long x3)] 5 = mkF m 0 #[vr x0, vi (3 : Int32), vi (3 : Int32), vj x3, .second] [] := by first | (simp [entryFrame, mkF, argsToLocals, Value.category]; done) | rfl
def Q2_3_3 (Z : State) (a1 : Addr) (q4 : Int64) (k1 : ClassId) (w0 : Int32) (w1 : Int32) (w2 : Int32) (w3 : Int32) (w4 : Int32) (w5 : Int32) (w6 : Int32) (w7 : Int32) (h0 : Heap) (n0 : Nat) (v : Option Value) (h : Heap) (L : List Loc) : Prop := v = some (.int (1 : Int32)) ∧ Fr n0 L ∧ h = h0
set_option maxRecDepth 65536 in
set_option maxHeartbeats 40000000 in
theorem rm2_3_3 (l : Launch) (Z : State) (a0 : Array Value) (hw : ∀ d ∈ tables_1, d.before a0 Z = true) (ws : List Jvm.Cond) (a1 : Addr) (q4 : Int64) (k1 : ClassId) (w0 : Int32) (w1 : Int32) (w2 : Int32) (w3 : Int32) (w4 : Int32) (w5 : Int32) (w6 : Int32) (w7 : Int32) (h0 : Heap) (n0 : Nat) (Z0 : n0 ≤ h0.size) (V0 : Arv Z h0 a1 k1 .byte (8 : Int32) [(.int w0), (.int w1), (.int w2), (.int w3), (.int w4), (.int w5), (.int w6), (.int w7)] (.int (0 : Int32))) (hv : w3 = ((q4 >>> ((24 : Int32) &&& 0x3f).toInt64).toInt32.toInt8.toInt32)) :
    MetFree l y_1 (head1 (Jvm.Cond.code y_1 method_2_code 5 (some .boolean) :: ws) ({ frames := 0, cells := 0, slots := 0, locals := 0 } : Room)) (fun a U => a = #[(.ref a1), (.int (3 : Int32)), (.int (3 : Int32)), (.long q4)] ∧ Z.Warmed39 U.vm ∧ U.heap = h0) (fun _ _ _ _ _ => True) (fun _ U o U' => ∃ v L, o = .returned v ∧ Q2_3_3 Z a1 q4 k1 w0 w1 w2 w3 w4 w5 w6 w7 h0 n0 v U'.heap L ∧ FrameEnd U o U' L ({ frames := 0, cells := 0, slots := 0, locals := 0 } : Room).cells ({ frames := 0, cells := 0, slots := 0, locals := 0 } : Room).slots) := by
  refine MetFree.of_bodySF (plainFor_of_name pn_2_3_3) hisR ?_
  intro p e s m args below meth c s₁ Bd hml0 hP hK
  obtain ⟨rfl, hZ, hh⟩ := hP
  have hx := Bd.exec
  have hby := Bd.bytes
  have hml : c.maxLocals = 5 := hml0
  have hown : s.vm.findClass "com/example/glottis/glottis/audio/AudioPutPinLaw" = some m.cls := findClass_of_methodNamed Bd.named
  have hnm := (name_of_methodNamed Bd.named Bd.method).1
  have X0 : Stand p l e ({ frames := 0, cells := 0, slots := 0, locals := 0 } : Room) s m #[(.ref a1), (.int (3 : Int32)), (.int (3 : Int32)), (.long q4)] below meth c s₁ [] 0 0 := Stand.of_body Bd
  have e0 : s₁.heap = h0 := by rw [← hh, Bd.state]; rfl
  have N0 := Fr.nil n0
  obtain ⟨F0, hF0⟩ : ∃ F : JFrame, F = entryFrame m #[(.ref a1), (.int (3 : Int32)), (.int (3 : Int32)), (.long q4)] 5 := ⟨_, rfl⟩
  have pre0 : ∀ t, Steps p.tables e below (s₁.setTop F0) t → Steps p.tables e below (s₁.setTop (entryFrame m #[(.ref a1), (.int (3 : Int32)), (.int (3 : Int32)), (.long q4)] 5)) t := fun t k => hF0 ▸ k
  have go0 : Go p e below s₁ F0 s₁ (mkF m 0 #[vr a1, vi (3 : Int32), vi (3 : Int32), vj q4, .second] []) := fun t k => castTop (hF0.trans (ef_2_3_3 m a1 q4)) k
  have go1 : Go p e below s₁ F0 s₁ (mkF m 9 #[vr a1, vi (3 : Int32), vi (3 : Int32), vj q4, .second] [(.int (3 : Int32)), (.ref a1)]) := by
    intro t kt
    refine go0 t ?_
    refine o_iloadN X0 hx (hb hby d2_0) rfl ?_
    refine o_iconst X0 hx (hb hby d2_1) (v := 1) rfl ?_
    refine o_ishrE X0 hx (hb hby d2_2) (v := 1) rfl ?_
    refine o_iloadN X0 hx (hb hby d2_3) rfl ?_
    refine o_icmpNo X0 hx (hb hby d2_4) (feq (by decide : ¬ ((1 : Int32) = (3 : Int32)))).1 ?_
    refine o_aloadN X0 hx (hb hby d2_7) rfl rfl ?_
    refine o_iloadN X0 hx (hb hby d2_8) rfl ?_
    exact kt
  obtain ⟨cl2, Ar2, -, Sz2, Nn2, Hs2, -⟩ := id V0
  have hin2 : ¬ ((3 : Int32) < 0 ∨ cl2.slots.size ≤ ((3 : Int32)).toNatClampNeg) := inb_of Sz2 ⟨by decide, by decide⟩
  have hat2 : cl2.slots[((3 : Int32)).toNatClampNeg]? = some (.int w3) := Hs2.at hin2 rfl
  have go4 : Go p e below s₁ F0 s₁ (mkF m 18 #[vr a1, vi (3 : Int32), vi (3 : Int32), vj q4, .second] [(.int (((q4 >>> ((24 : Int32) &&& 0x3f).toInt64).toInt32).toInt8.toInt32)), (.int w3)]) := by
    intro t kt
    refine go1 t ?_
    refine o_baload X0 hx hZ e0 Ar2 hin2 hat2 (hb hby d2_9) ?_
    refine o_lloadN X0 hx (hb hby d2_10) rfl ?_
    refine o_bipush X0 hx (hb hby d2_11) (v := 8) rfl ?_
    refine o_iloadN X0 hx (hb hby d2_13) rfl ?_
    refine o_imulE X0 hx (hb hby d2_14) (v := 24) rfl ?_
    refine o_lshr X0 hx (hb hby d2_15) ?_
    refine o_l2i X0 hx (hb hby d2_16) ?_
    refine o_i2b X0 hx (hb hby d2_17) ?_
    exact kt
  have hd3 : w3 = (((q4 >>> ((24 : Int32) &&& 0x3f).toInt64).toInt32).toInt8.toInt32) := hv
  have go5 : Go p e below s₁ F0 s₁ (mkF m 26 #[vr a1, vi (3 : Int32), vi (3 : Int32), vj q4, .second] [(.int (1 : Int32))]) := by
    intro t kt
    refine go4 t ?_
    refine o_icmpNo X0 hx (hb hby d2_18) (teq hd3).2 ?_
    refine o_iconst X0 hx (hb hby d2_21) (v := 1) rfl ?_
    refine o_goto X0 hx (hb hby d2_22) (pc' := 26) rfl (by decide) ?_
    exact kt
  obtain ⟨fs, hr, hrun, hended, hW, hsame⟩ := X0.leave (v := some (.int (1 : Int32))) (fun h => by rw [Bd.returns] at h; cases h)
  refine ⟨_, _, pre0 _ (go5 _ ?_), hrun, hended, _, _, rfl, ?_, ⟨_, rfl⟩, hW, hsame.mono (by decide) (by decide)⟩
  · skip
    exact retN X0 hx (t := .boolean) Bd.returns (by simp) (hb hby d2_26) hr
  · show Q2_3_3 Z a1 q4 k1 w0 w1 w2 w3 w4 w5 w6 w7 h0 n0 _ s₁.heap _
    rw [e0]
    exact ⟨rfl, N0, rfl⟩

theorem pn_2_3_4 : plainName "com/example/glottis/glottis/audio/AudioPutPinLaw" = true := by first | (simp [plainName, overriddenIn]; done) | decide +kernel
theorem ef_2_3_4 (m : MethodId) (x0 : Addr) (x3 : Int64) : entryFrame m #[(.ref x0), (.int (4 : Int32)), (.int (3 : Int32)), (.long x3)] 5 = mkF m 0 #[vr x0, vi (4 : Int32), vi (3 : Int32), vj x3, .second] [] := by first | (simp [entryFrame, mkF, argsToLocals, Value.category]; done) | rfl
def Q2_3_4 (Z : State) (a1 : Addr) (q4 : Int64) (k1 : ClassId) (w0 : Int32) (w1 : Int32) (w2 : Int32) (w3 : Int32) (w4 : Int32) (w5 : Int32) (w6 : Int32) (w7 : Int32) (h0 : Heap) (n0 : Nat) (v : Option Value) (h : Heap) (L : List Loc) : Prop := v = some (.int (1 : Int32)) ∧ Fr n0 L ∧ h = h0
set_option maxRecDepth 65536 in
set_option maxHeartbeats 40000000 in
theorem rm2_3_4 (l : Launch) (Z : State) (a0 : Array Value) (hw : ∀ d ∈ tables_1, d.before a0 Z = true) (ws : List Jvm.Cond) (a1 : Addr) (q4 : Int64) (k1 : ClassId) (w0 : Int32) (w1 : Int32) (w2 : Int32) (w3 : Int32) (w4 : Int32) (w5 : Int32) (w6 : Int32) (w7 : Int32) (h0 : Heap) (n0 : Nat) (Z0 : n0 ≤ h0.size) (V0 : Arv Z h0 a1 k1 .byte (8 : Int32) [(.int w0), (.int w1), (.int w2), (.int w3), (.int w4), (.int w5), (.int w6), (.int w7)] (.int (0 : Int32))) (hv : w4 = ((q4 >>> ((32 : Int32) &&& 0x3f).toInt64).toInt32.toInt8.toInt32)) :
    MetFree l y_1 (head1 (Jvm.Cond.code y_1 method_2_code 5 (some .boolean) :: ws) ({ frames := 0, cells := 0, slots := 0, locals := 0 } : Room)) (fun a U => a = #[(.ref a1), (.int (4 : Int32)), (.int (3 : Int32)), (.long q4)] ∧ Z.Warmed39 U.vm ∧ U.heap = h0) (fun _ _ _ _ _ => True) (fun _ U o U' => ∃ v L, o = .returned v ∧ Q2_3_4 Z a1 q4 k1 w0 w1 w2 w3 w4 w5 w6 w7 h0 n0 v U'.heap L ∧ FrameEnd U o U' L ({ frames := 0, cells := 0, slots := 0, locals := 0 } : Room).cells ({ frames := 0, cells := 0, slots := 0, locals := 0 } : Room).slots) := by
  refine MetFree.of_bodySF (plainFor_of_name pn_2_3_4) hisR ?_
  intro p e s m args below meth c s₁ Bd hml0 hP hK
  obtain ⟨rfl, hZ, hh⟩ := hP
  have hx := Bd.exec
  have hby := Bd.bytes
  have hml : c.maxLocals = 5 := hml0
  have hown : s.vm.findClass "com/example/glottis/glottis/audio/AudioPutPinLaw" = some m.cls := findClass_of_methodNamed Bd.named
  have hnm := (name_of_methodNamed Bd.named Bd.method).1
  have X0 : Stand p l e ({ frames := 0, cells := 0, slots := 0, locals := 0 } : Room) s m #[(.ref a1), (.int (4 : Int32)), (.int (3 : Int32)), (.long q4)] below meth c s₁ [] 0 0 := Stand.of_body Bd
  have e0 : s₁.heap = h0 := by rw [← hh, Bd.state]; rfl
  have N0 := Fr.nil n0
  obtain ⟨F0, hF0⟩ : ∃ F : JFrame, F = entryFrame m #[(.ref a1), (.int (4 : Int32)), (.int (3 : Int32)), (.long q4)] 5 := ⟨_, rfl⟩
  have pre0 : ∀ t, Steps p.tables e below (s₁.setTop F0) t → Steps p.tables e below (s₁.setTop (entryFrame m #[(.ref a1), (.int (4 : Int32)), (.int (3 : Int32)), (.long q4)] 5)) t := fun t k => hF0 ▸ k
  have go0 : Go p e below s₁ F0 s₁ (mkF m 0 #[vr a1, vi (4 : Int32), vi (3 : Int32), vj q4, .second] []) := fun t k => castTop (hF0.trans (ef_2_3_4 m a1 q4)) k
  have go1 : Go p e below s₁ F0 s₁ (mkF m 9 #[vr a1, vi (4 : Int32), vi (3 : Int32), vj q4, .second] [(.int (4 : Int32)), (.ref a1)]) := by
    intro t kt
    refine go0 t ?_
    refine o_iloadN X0 hx (hb hby d2_0) rfl ?_
    refine o_iconst X0 hx (hb hby d2_1) (v := 1) rfl ?_
    refine o_ishrE X0 hx (hb hby d2_2) (v := 2) rfl ?_
    refine o_iloadN X0 hx (hb hby d2_3) rfl ?_
    refine o_icmpNo X0 hx (hb hby d2_4) (feq (by decide : ¬ ((2 : Int32) = (3 : Int32)))).1 ?_
    refine o_aloadN X0 hx (hb hby d2_7) rfl rfl ?_
    refine o_iloadN X0 hx (hb hby d2_8) rfl ?_
    exact kt
  obtain ⟨cl2, Ar2, -, Sz2, Nn2, Hs2, -⟩ := id V0
  have hin2 : ¬ ((4 : Int32) < 0 ∨ cl2.slots.size ≤ ((4 : Int32)).toNatClampNeg) := inb_of Sz2 ⟨by decide, by decide⟩
  have hat2 : cl2.slots[((4 : Int32)).toNatClampNeg]? = some (.int w4) := Hs2.at hin2 rfl
  have go4 : Go p e below s₁ F0 s₁ (mkF m 18 #[vr a1, vi (4 : Int32), vi (3 : Int32), vj q4, .second] [(.int (((q4 >>> ((32 : Int32) &&& 0x3f).toInt64).toInt32).toInt8.toInt32)), (.int w4)]) := by
    intro t kt
    refine go1 t ?_
    refine o_baload X0 hx hZ e0 Ar2 hin2 hat2 (hb hby d2_9) ?_
    refine o_lloadN X0 hx (hb hby d2_10) rfl ?_
    refine o_bipush X0 hx (hb hby d2_11) (v := 8) rfl ?_
    refine o_iloadN X0 hx (hb hby d2_13) rfl ?_
    refine o_imulE X0 hx (hb hby d2_14) (v := 32) rfl ?_
    refine o_lshr X0 hx (hb hby d2_15) ?_
    refine o_l2i X0 hx (hb hby d2_16) ?_
    refine o_i2b X0 hx (hb hby d2_17) ?_
    exact kt
  have hd3 : w4 = (((q4 >>> ((32 : Int32) &&& 0x3f).toInt64).toInt32).toInt8.toInt32) := hv
  have go5 : Go p e below s₁ F0 s₁ (mkF m 26 #[vr a1, vi (4 : Int32), vi (3 : Int32), vj q4, .second] [(.int (1 : Int32))]) := by
    intro t kt
    refine go4 t ?_
    refine o_icmpNo X0 hx (hb hby d2_18) (teq hd3).2 ?_
    refine o_iconst X0 hx (hb hby d2_21) (v := 1) rfl ?_
    refine o_goto X0 hx (hb hby d2_22) (pc' := 26) rfl (by decide) ?_
    exact kt
  obtain ⟨fs, hr, hrun, hended, hW, hsame⟩ := X0.leave (v := some (.int (1 : Int32))) (fun h => by rw [Bd.returns] at h; cases h)
  refine ⟨_, _, pre0 _ (go5 _ ?_), hrun, hended, _, _, rfl, ?_, ⟨_, rfl⟩, hW, hsame.mono (by decide) (by decide)⟩
  · skip
    exact retN X0 hx (t := .boolean) Bd.returns (by simp) (hb hby d2_26) hr
  · show Q2_3_4 Z a1 q4 k1 w0 w1 w2 w3 w4 w5 w6 w7 h0 n0 _ s₁.heap _
    rw [e0]
    exact ⟨rfl, N0, rfl⟩

theorem pn_2_3_5 : plainName "com/example/glottis/glottis/audio/AudioPutPinLaw" = true := by first | (simp [plainName, overriddenIn]; done) | decide +kernel
theorem ef_2_3_5 (m : MethodId) (x0 : Addr) (x3 : Int64) : entryFrame m #[(.ref x0), (.int (5 : Int32)), (.int (3 : Int32)), (.long x3)] 5 = mkF m 0 #[vr x0, vi (5 : Int32), vi (3 : Int32), vj x3, .second] [] := by first | (simp [entryFrame, mkF, argsToLocals, Value.category]; done) | rfl
def Q2_3_5 (Z : State) (a1 : Addr) (q4 : Int64) (k1 : ClassId) (w0 : Int32) (w1 : Int32) (w2 : Int32) (w3 : Int32) (w4 : Int32) (w5 : Int32) (w6 : Int32) (w7 : Int32) (h0 : Heap) (n0 : Nat) (v : Option Value) (h : Heap) (L : List Loc) : Prop := v = some (.int (1 : Int32)) ∧ Fr n0 L ∧ h = h0
set_option maxRecDepth 65536 in
set_option maxHeartbeats 40000000 in
theorem rm2_3_5 (l : Launch) (Z : State) (a0 : Array Value) (hw : ∀ d ∈ tables_1, d.before a0 Z = true) (ws : List Jvm.Cond) (a1 : Addr) (q4 : Int64) (k1 : ClassId) (w0 : Int32) (w1 : Int32) (w2 : Int32) (w3 : Int32) (w4 : Int32) (w5 : Int32) (w6 : Int32) (w7 : Int32) (h0 : Heap) (n0 : Nat) (Z0 : n0 ≤ h0.size) (V0 : Arv Z h0 a1 k1 .byte (8 : Int32) [(.int w0), (.int w1), (.int w2), (.int w3), (.int w4), (.int w5), (.int w6), (.int w7)] (.int (0 : Int32))) (hv : w5 = ((q4 >>> ((40 : Int32) &&& 0x3f).toInt64).toInt32.toInt8.toInt32)) :
    MetFree l y_1 (head1 (Jvm.Cond.code y_1 method_2_code 5 (some .boolean) :: ws) ({ frames := 0, cells := 0, slots := 0, locals := 0 } : Room)) (fun a U => a = #[(.ref a1), (.int (5 : Int32)), (.int (3 : Int32)), (.long q4)] ∧ Z.Warmed39 U.vm ∧ U.heap = h0) (fun _ _ _ _ _ => True) (fun _ U o U' => ∃ v L, o = .returned v ∧ Q2_3_5 Z a1 q4 k1 w0 w1 w2 w3 w4 w5 w6 w7 h0 n0 v U'.heap L ∧ FrameEnd U o U' L ({ frames := 0, cells := 0, slots := 0, locals := 0 } : Room).cells ({ frames := 0, cells := 0, slots := 0, locals := 0 } : Room).slots) := by
  refine MetFree.of_bodySF (plainFor_of_name pn_2_3_5) hisR ?_
  intro p e s m args below meth c s₁ Bd hml0 hP hK
  obtain ⟨rfl, hZ, hh⟩ := hP
  have hx := Bd.exec
  have hby := Bd.bytes
  have hml : c.maxLocals = 5 := hml0
  have hown : s.vm.findClass "com/example/glottis/glottis/audio/AudioPutPinLaw" = some m.cls := findClass_of_methodNamed Bd.named
  have hnm := (name_of_methodNamed Bd.named Bd.method).1
  have X0 : Stand p l e ({ frames := 0, cells := 0, slots := 0, locals := 0 } : Room) s m #[(.ref a1), (.int (5 : Int32)), (.int (3 : Int32)), (.long q4)] below meth c s₁ [] 0 0 := Stand.of_body Bd
  have e0 : s₁.heap = h0 := by rw [← hh, Bd.state]; rfl
  have N0 := Fr.nil n0
  obtain ⟨F0, hF0⟩ : ∃ F : JFrame, F = entryFrame m #[(.ref a1), (.int (5 : Int32)), (.int (3 : Int32)), (.long q4)] 5 := ⟨_, rfl⟩
  have pre0 : ∀ t, Steps p.tables e below (s₁.setTop F0) t → Steps p.tables e below (s₁.setTop (entryFrame m #[(.ref a1), (.int (5 : Int32)), (.int (3 : Int32)), (.long q4)] 5)) t := fun t k => hF0 ▸ k
  have go0 : Go p e below s₁ F0 s₁ (mkF m 0 #[vr a1, vi (5 : Int32), vi (3 : Int32), vj q4, .second] []) := fun t k => castTop (hF0.trans (ef_2_3_5 m a1 q4)) k
  have go1 : Go p e below s₁ F0 s₁ (mkF m 9 #[vr a1, vi (5 : Int32), vi (3 : Int32), vj q4, .second] [(.int (5 : Int32)), (.ref a1)]) := by
    intro t kt
    refine go0 t ?_
    refine o_iloadN X0 hx (hb hby d2_0) rfl ?_
    refine o_iconst X0 hx (hb hby d2_1) (v := 1) rfl ?_
    refine o_ishrE X0 hx (hb hby d2_2) (v := 2) rfl ?_
    refine o_iloadN X0 hx (hb hby d2_3) rfl ?_
    refine o_icmpNo X0 hx (hb hby d2_4) (feq (by decide : ¬ ((2 : Int32) = (3 : Int32)))).1 ?_
    refine o_aloadN X0 hx (hb hby d2_7) rfl rfl ?_
    refine o_iloadN X0 hx (hb hby d2_8) rfl ?_
    exact kt
  obtain ⟨cl2, Ar2, -, Sz2, Nn2, Hs2, -⟩ := id V0
  have hin2 : ¬ ((5 : Int32) < 0 ∨ cl2.slots.size ≤ ((5 : Int32)).toNatClampNeg) := inb_of Sz2 ⟨by decide, by decide⟩
  have hat2 : cl2.slots[((5 : Int32)).toNatClampNeg]? = some (.int w5) := Hs2.at hin2 rfl
  have go4 : Go p e below s₁ F0 s₁ (mkF m 18 #[vr a1, vi (5 : Int32), vi (3 : Int32), vj q4, .second] [(.int (((q4 >>> ((40 : Int32) &&& 0x3f).toInt64).toInt32).toInt8.toInt32)), (.int w5)]) := by
    intro t kt
    refine go1 t ?_
    refine o_baload X0 hx hZ e0 Ar2 hin2 hat2 (hb hby d2_9) ?_
    refine o_lloadN X0 hx (hb hby d2_10) rfl ?_
    refine o_bipush X0 hx (hb hby d2_11) (v := 8) rfl ?_
    refine o_iloadN X0 hx (hb hby d2_13) rfl ?_
    refine o_imulE X0 hx (hb hby d2_14) (v := 40) rfl ?_
    refine o_lshr X0 hx (hb hby d2_15) ?_
    refine o_l2i X0 hx (hb hby d2_16) ?_
    refine o_i2b X0 hx (hb hby d2_17) ?_
    exact kt
  have hd3 : w5 = (((q4 >>> ((40 : Int32) &&& 0x3f).toInt64).toInt32).toInt8.toInt32) := hv
  have go5 : Go p e below s₁ F0 s₁ (mkF m 26 #[vr a1, vi (5 : Int32), vi (3 : Int32), vj q4, .second] [(.int (1 : Int32))]) := by
    intro t kt
    refine go4 t ?_
    refine o_icmpNo X0 hx (hb hby d2_18) (teq hd3).2 ?_
    refine o_iconst X0 hx (hb hby d2_21) (v := 1) rfl ?_
    refine o_goto X0 hx (hb hby d2_22) (pc' := 26) rfl (by decide) ?_
    exact kt
  obtain ⟨fs, hr, hrun, hended, hW, hsame⟩ := X0.leave (v := some (.int (1 : Int32))) (fun h => by rw [Bd.returns] at h; cases h)
  refine ⟨_, _, pre0 _ (go5 _ ?_), hrun, hended, _, _, rfl, ?_, ⟨_, rfl⟩, hW, hsame.mono (by decide) (by decide)⟩
  · skip
    exact retN X0 hx (t := .boolean) Bd.returns (by simp) (hb hby d2_26) hr
  · show Q2_3_5 Z a1 q4 k1 w0 w1 w2 w3 w4 w5 w6 w7 h0 n0 _ s₁.heap _
    rw [e0]
    exact ⟨rfl, N0, rfl⟩

theorem pn_2_3_6 : plainName "com/example/glottis/glottis/audio/AudioPutPinLaw" = true := by first | (simp [plainName, overriddenIn]; done) | decide +kernel
theorem ef_2_3_6 (m : MethodId) (x0 : Addr) (x3 : Int64) : entryFrame m #[(.ref x0), (.int (6 : Int32)), (.int (3 : Int32)), (.long x3)] 5 = mkF m 0 #[vr x0, vi (6 : Int32), vi (3 : Int32), vj x3, .second] [] := by first | (simp [entryFrame, mkF, argsToLocals, Value.category]; done) | rfl
def Q2_3_6 (Z : State) (a1 : Addr) (q4 : Int64) (k1 : ClassId) (w0 : Int32) (w1 : Int32) (w2 : Int32) (w3 : Int32) (w4 : Int32) (w5 : Int32) (w6 : Int32) (w7 : Int32) (h0 : Heap) (n0 : Nat) (v : Option Value) (h : Heap) (L : List Loc) : Prop := v = some (.int (1 : Int32)) ∧ Fr n0 L ∧ h = h0
set_option maxRecDepth 65536 in
set_option maxHeartbeats 40000000 in
theorem rm2_3_6 (l : Launch) (Z : State) (a0 : Array Value) (hw : ∀ d ∈ tables_1, d.before a0 Z = true) (ws : List Jvm.Cond) (a1 : Addr) (q4 : Int64) (k1 : ClassId) (w0 : Int32) (w1 : Int32) (w2 : Int32) (w3 : Int32) (w4 : Int32) (w5 : Int32) (w6 : Int32) (w7 : Int32) (h0 : Heap) (n0 : Nat) (Z0 : n0 ≤ h0.size) (V0 : Arv Z h0 a1 k1 .byte (8 : Int32) [(.int w0), (.int w1), (.int w2), (.int w3), (.int w4), (.int w5), (.int w6), (.int w7)] (.int (0 : Int32))) :
    MetFree l y_1 (head1 (Jvm.Cond.code y_1 method_2_code 5 (some .boolean) :: ws) ({ frames := 0, cells := 0, slots := 0, locals := 0 } : Room)) (fun a U => a = #[(.ref a1), (.int (6 : Int32)), (.int (3 : Int32)), (.long q4)] ∧ Z.Warmed39 U.vm ∧ U.heap = h0) (fun _ _ _ _ _ => True) (fun _ U o U' => ∃ v L, o = .returned v ∧ Q2_3_6 Z a1 q4 k1 w0 w1 w2 w3 w4 w5 w6 w7 h0 n0 v U'.heap L ∧ FrameEnd U o U' L ({ frames := 0, cells := 0, slots := 0, locals := 0 } : Room).cells ({ frames := 0, cells := 0, slots := 0, locals := 0 } : Room).slots) := by
  refine MetFree.of_bodySF (plainFor_of_name pn_2_3_6) hisR ?_
  intro p e s m args below meth c s₁ Bd hml0 hP hK
  obtain ⟨rfl, hZ, hh⟩ := hP
  have hx := Bd.exec
  have hby := Bd.bytes
  have hml : c.maxLocals = 5 := hml0
  have hown : s.vm.findClass "com/example/glottis/glottis/audio/AudioPutPinLaw" = some m.cls := findClass_of_methodNamed Bd.named
  have hnm := (name_of_methodNamed Bd.named Bd.method).1
  have X0 : Stand p l e ({ frames := 0, cells := 0, slots := 0, locals := 0 } : Room) s m #[(.ref a1), (.int (6 : Int32)), (.int (3 : Int32)), (.long q4)] below meth c s₁ [] 0 0 := Stand.of_body Bd
  have e0 : s₁.heap = h0 := by rw [← hh, Bd.state]; rfl
  have N0 := Fr.nil n0
  obtain ⟨F0, hF0⟩ : ∃ F : JFrame, F = entryFrame m #[(.ref a1), (.int (6 : Int32)), (.int (3 : Int32)), (.long q4)] 5 := ⟨_, rfl⟩
  have pre0 : ∀ t, Steps p.tables e below (s₁.setTop F0) t → Steps p.tables e below (s₁.setTop (entryFrame m #[(.ref a1), (.int (6 : Int32)), (.int (3 : Int32)), (.long q4)] 5)) t := fun t k => hF0 ▸ k
  have go0 : Go p e below s₁ F0 s₁ (mkF m 0 #[vr a1, vi (6 : Int32), vi (3 : Int32), vj q4, .second] []) := fun t k => castTop (hF0.trans (ef_2_3_6 m a1 q4)) k
  have go1 : Go p e below s₁ F0 s₁ (mkF m 26 #[vr a1, vi (6 : Int32), vi (3 : Int32), vj q4, .second] [(.int (1 : Int32))]) := by
    intro t kt
    refine go0 t ?_
    refine o_iloadN X0 hx (hb hby d2_0) rfl ?_
    refine o_iconst X0 hx (hb hby d2_1) (v := 1) rfl ?_
    refine o_ishrE X0 hx (hb hby d2_2) (v := 3) rfl ?_
    refine o_iloadN X0 hx (hb hby d2_3) rfl ?_
    refine o_icmpYes X0 hx (hb hby d2_4) (pc' := 21) rfl (by decide) (teq (by decide : (3 : Int32) = (3 : Int32))).1 ?_
    refine o_iconst X0 hx (hb hby d2_21) (v := 1) rfl ?_
    refine o_goto X0 hx (hb hby d2_22) (pc' := 26) rfl (by decide) ?_
    exact kt
  obtain ⟨fs, hr, hrun, hended, hW, hsame⟩ := X0.leave (v := some (.int (1 : Int32))) (fun h => by rw [Bd.returns] at h; cases h)
  refine ⟨_, _, pre0 _ (go1 _ ?_), hrun, hended, _, _, rfl, ?_, ⟨_, rfl⟩, hW, hsame.mono (by decide) (by decide)⟩
  · skip
    exact retN X0 hx (t := .boolean) Bd.returns (by simp) (hb hby d2_26) hr
  · show Q2_3_6 Z a1 q4 k1 w0 w1 w2 w3 w4 w5 w6 w7 h0 n0 _ s₁.heap _
    rw [e0]
    exact ⟨rfl, N0, rfl⟩

theorem pn_2_3_7 : plainName "com/example/glottis/glottis/audio/AudioPutPinLaw" = true := by first | (simp [plainName, overriddenIn]; done) | decide +kernel
theorem ef_2_3_7 (m : MethodId) (x0 : Addr) (x3 : Int64) : entryFrame m #[(.ref x0), (.int (7 : Int32)), (.int (3 : Int32)), (.long x3)] 5 = mkF m 0 #[vr x0, vi (7 : Int32), vi (3 : Int32), vj x3, .second] [] := by first | (simp [entryFrame, mkF, argsToLocals, Value.category]; done) | rfl
def Q2_3_7 (Z : State) (a1 : Addr) (q4 : Int64) (k1 : ClassId) (w0 : Int32) (w1 : Int32) (w2 : Int32) (w3 : Int32) (w4 : Int32) (w5 : Int32) (w6 : Int32) (w7 : Int32) (h0 : Heap) (n0 : Nat) (v : Option Value) (h : Heap) (L : List Loc) : Prop := v = some (.int (1 : Int32)) ∧ Fr n0 L ∧ h = h0
set_option maxRecDepth 65536 in
set_option maxHeartbeats 40000000 in
theorem rm2_3_7 (l : Launch) (Z : State) (a0 : Array Value) (hw : ∀ d ∈ tables_1, d.before a0 Z = true) (ws : List Jvm.Cond) (a1 : Addr) (q4 : Int64) (k1 : ClassId) (w0 : Int32) (w1 : Int32) (w2 : Int32) (w3 : Int32) (w4 : Int32) (w5 : Int32) (w6 : Int32) (w7 : Int32) (h0 : Heap) (n0 : Nat) (Z0 : n0 ≤ h0.size) (V0 : Arv Z h0 a1 k1 .byte (8 : Int32) [(.int w0), (.int w1), (.int w2), (.int w3), (.int w4), (.int w5), (.int w6), (.int w7)] (.int (0 : Int32))) :
    MetFree l y_1 (head1 (Jvm.Cond.code y_1 method_2_code 5 (some .boolean) :: ws) ({ frames := 0, cells := 0, slots := 0, locals := 0 } : Room)) (fun a U => a = #[(.ref a1), (.int (7 : Int32)), (.int (3 : Int32)), (.long q4)] ∧ Z.Warmed39 U.vm ∧ U.heap = h0) (fun _ _ _ _ _ => True) (fun _ U o U' => ∃ v L, o = .returned v ∧ Q2_3_7 Z a1 q4 k1 w0 w1 w2 w3 w4 w5 w6 w7 h0 n0 v U'.heap L ∧ FrameEnd U o U' L ({ frames := 0, cells := 0, slots := 0, locals := 0 } : Room).cells ({ frames := 0, cells := 0, slots := 0, locals := 0 } : Room).slots) := by
  refine MetFree.of_bodySF (plainFor_of_name pn_2_3_7) hisR ?_
  intro p e s m args below meth c s₁ Bd hml0 hP hK
  obtain ⟨rfl, hZ, hh⟩ := hP
  have hx := Bd.exec
  have hby := Bd.bytes
  have hml : c.maxLocals = 5 := hml0
  have hown : s.vm.findClass "com/example/glottis/glottis/audio/AudioPutPinLaw" = some m.cls := findClass_of_methodNamed Bd.named
  have hnm := (name_of_methodNamed Bd.named Bd.method).1
  have X0 : Stand p l e ({ frames := 0, cells := 0, slots := 0, locals := 0 } : Room) s m #[(.ref a1), (.int (7 : Int32)), (.int (3 : Int32)), (.long q4)] below meth c s₁ [] 0 0 := Stand.of_body Bd
  have e0 : s₁.heap = h0 := by rw [← hh, Bd.state]; rfl
  have N0 := Fr.nil n0
  obtain ⟨F0, hF0⟩ : ∃ F : JFrame, F = entryFrame m #[(.ref a1), (.int (7 : Int32)), (.int (3 : Int32)), (.long q4)] 5 := ⟨_, rfl⟩
  have pre0 : ∀ t, Steps p.tables e below (s₁.setTop F0) t → Steps p.tables e below (s₁.setTop (entryFrame m #[(.ref a1), (.int (7 : Int32)), (.int (3 : Int32)), (.long q4)] 5)) t := fun t k => hF0 ▸ k
  have go0 : Go p e below s₁ F0 s₁ (mkF m 0 #[vr a1, vi (7 : Int32), vi (3 : Int32), vj q4, .second] []) := fun t k => castTop (hF0.trans (ef_2_3_7 m a1 q4)) k
  have go1 : Go p e below s₁ F0 s₁ (mkF m 26 #[vr a1, vi (7 : Int32), vi (3 : Int32), vj q4, .second] [(.int (1 : Int32))]) := by
    intro t kt
    refine go0 t ?_
    refine o_iloadN X0 hx (hb hby d2_0) rfl ?_
    refine o_iconst X0 hx (hb hby d2_1) (v := 1) rfl ?_
    refine o_ishrE X0 hx (hb hby d2_2) (v := 3) rfl ?_
    refine o_iloadN X0 hx (hb hby d2_3) rfl ?_
    refine o_icmpYes X0 hx (hb hby d2_4) (pc' := 21) rfl (by decide) (teq (by decide : (3 : Int32) = (3 : Int32))).1 ?_
    refine o_iconst X0 hx (hb hby d2_21) (v := 1) rfl ?_
    refine o_goto X0 hx (hb hby d2_22) (pc' := 26) rfl (by decide) ?_
    exact kt
  obtain ⟨fs, hr, hrun, hended, hW, hsame⟩ := X0.leave (v := some (.int (1 : Int32))) (fun h => by rw [Bd.returns] at h; cases h)
  refine ⟨_, _, pre0 _ (go1 _ ?_), hrun, hended, _, _, rfl, ?_, ⟨_, rfl⟩, hW, hsame.mono (by decide) (by decide)⟩
  · skip
    exact retN X0 hx (t := .boolean) Bd.returns (by simp) (hb hby d2_26) hr
  · show Q2_3_7 Z a1 q4 k1 w0 w1 w2 w3 w4 w5 w6 w7 h0 n0 _ s₁.heap _
    rw [e0]
    exact ⟨rfl, N0, rfl⟩

theorem pn_0 : plainName "com/example/glottis/glottis/audio/AudioPutPinLaw" = true := by first | (simp [plainName, overriddenIn]; done) | decide +kernel
theorem pd0_0 : parseMethodDescriptor "([BIS)V" = some ⟨[(.array .byte), .int, .short], none⟩ := by decide +kernel
theorem pd0_1 : parseMethodDescriptor "([BIIJ)Z" = some ⟨[(.array .byte), .int, .int, .long], some .boolean⟩ := by decide +kernel
theorem ef_0 (m : MethodId) (x0 : Int32) (x1 : Int32) (x2 : Int64) : entryFrame m #[(.int x0), (.int x1), (.long x2)] maxLocals = mkF m 0 #[vi x0, vi x1, vj x2, .second, .unset, .unset, .unset, .unset, .unset, .unset, .unset] [] := by first | (simp [entryFrame, mkF, argsToLocals, Value.category, maxLocals]; done) | rfl
def Q0 (Z : State) (p1 : Int32) (p2 : Int32) (q3 : Int64) (h0 : Heap) (n0 : Nat) (v : Option Value) (h : Heap) (L : List Loc) : Prop := v = some (.int (1 : Int32)) ∧ Fr n0 L
set_option maxRecDepth 65536 in
set_option maxHeartbeats 40000000 in
theorem rm0 (l : Launch) (Z : State) (a0 : Array Value) (hw : ∀ d ∈ tables_1, d.before a0 Z = true) (ws : List Jvm.Cond) (p1 : Int32) (p2 : Int32) (q3 : Int64) (h0 : Heap) (n0 : Nat) (Z0 : n0 ≤ h0.size) :
    MetFree l x (head1 (Jvm.Cond.code x code maxLocals ret :: ws) room_1) (fun a U => a = #[(.int p1), (.int p2), (.long q3)] ∧ Z.Warmed39 U.vm ∧ U.heap = h0) (fun _ _ _ _ _ => True) (fun _ U o U' => ∃ v L, o = .returned v ∧ Q0 Z p1 p2 q3 h0 n0 v U'.heap L ∧ FrameEnd U o U' L room_1.cells room_1.slots) := by
  refine MetFree.of_bodySF (plainFor_of_name pn_0) hisR ?_
  intro p e s m args below meth c s₁ Bd hml0 hP hK
  obtain ⟨rfl, hZ, hh⟩ := hP
  have hx := Bd.exec
  have hby := Bd.bytes
  have hml : c.maxLocals = 11 := hml0
  have hown : s.vm.findClass "com/example/glottis/glottis/audio/AudioPutPinLaw" = some m.cls := findClass_of_methodNamed Bd.named
  have hnm := (name_of_methodNamed Bd.named Bd.method).1
  have X0 : Stand p l e room_1 s m #[(.int p1), (.int p2), (.long q3)] below meth c s₁ [] 0 0 := Stand.of_body Bd
  have e0 : s₁.heap = h0 := by rw [← hh, Bd.state]; rfl
  have N0 := Fr.nil n0
  obtain ⟨F0, hF0⟩ : ∃ F : JFrame, F = entryFrame m #[(.int p1), (.int p2), (.long q3)] maxLocals := ⟨_, rfl⟩
  have pre0 : ∀ t, Steps p.tables e below (s₁.setTop F0) t → Steps p.tables e below (s₁.setTop (entryFrame m #[(.int p1), (.int p2), (.long q3)] maxLocals)) t := fun t k => hF0 ▸ k
  have go0 : Go p e below s₁ F0 s₁ (mkF m 0 #[vi p1, vi p2, vj q3, .second, .unset, .unset, .unset, .unset, .unset, .unset, .unset] []) := fun t k => castTop (hF0.trans (ef_0 m p1 p2 q3)) k
  have go1 : Go p e below s₁ F0 s₁ (mkF m 11 #[vi p1, vi p2, vj q3, .second, vi (p1 &&& (3 : Int32)), vi (p2.toInt16.toInt32), .unset, .unset, .unset, .unset, .unset] [(.int (8 : Int32))]) := by
    intro t kt
    refine go0 t ?_
    refine o_iloadN X0 hx (hb hby at_0) rfl ?_
    refine o_iconst X0 hx (hb hby at_1) (v := 3) rfl ?_
    refine o_iand X0 hx (hb hby at_2) ?_
    refine o_istore X0 hx (hb hby at_3) (L' := #[vi p1, vi p2, vj q3, .second, vi (p1 &&& (3 : Int32)), .unset, .unset, .unset, .unset, .unset, .unset]) rfl ?_
    refine o_iloadN X0 hx (hb hby at_5) rfl ?_
    refine o_i2s X0 hx (hb hby at_6) ?_
    refine o_istore X0 hx (hb hby at_7) (L' := #[vi p1, vi p2, vj q3, .second, vi (p1 &&& (3 : Int32)), vi (p2.toInt16.toInt32), .unset, .unset, .unset, .unset, .unset]) rfl ?_
    refine o_bipush X0 hx (hb hby at_9) (v := 8) rfl ?_
    exact kt
  obtain ⟨T2, h2, k2, X2, e2, E2, A2, st2⟩ := newP X0 hx hZ (own_w hw 0 rfl) e0 (g := (mkF m 11 #[vi p1, vi p2, vj q3, .second, vi (p1 &&& (3 : Int32)), vi (p2.toInt16.toInt32), .unset, .unset, .unset, .unset, .unset] [(.int (8 : Int32))])) rfl (hb hby at_11) rfl (by decide) (cap := 8) (by decide) (by decide) (by decide) (by decide)
  obtain ⟨b2, gz2⟩ : ∃ z, z = h0.size := ⟨_, rfl⟩
  rw [← gz2] at A2 st2
  have g_b2 : n0 ≤ b2 := Nat.le_trans Z0 (Nat.le_of_eq gz2.symm)
  have Z3 : n0 ≤ h2.size := Nat.le_trans Z0 E2.1
  have V2 : Arv Z h2 b2 k2 .byte (8 : Int32) (own_zi 8) (.int (0 : Int32)) := (Arv.new A2 (by decide)).pad (pad_rep [] (.int (0 : Int32)) 8)
  have go4 : Go p e below s₁ F0 T2 (mkF m 13 #[vi p1, vi p2, vj q3, .second, vi (p1 &&& (3 : Int32)), vi (p2.toInt16.toInt32), .unset, .unset, .unset, .unset, .unset] [(.ref b2)]) := fun t k => go1 t (st2 t k)
  have go5 : Go p e below s₁ F0 T2 (mkF m 21 #[vi p1, vi p2, vj q3, .second, vi (p1 &&& (3 : Int32)), vi (p2.toInt16.toInt32), vr b2, .unset, .unset, .unset, .unset] [(.int ((q3.toInt32).toInt8.toInt32)), (.int (0 : Int32)), (.ref b2)]) := by
    intro t kt
    refine go4 t ?_
    refine o_astore X2 hx (hb hby at_13) rfl (L' := #[vi p1, vi p2, vj q3, .second, vi (p1 &&& (3 : Int32)), vi (p2.toInt16.toInt32), vr b2, .unset, .unset, .unset, .unset]) rfl ?_
    refine o_aload X2 hx (hb hby at_15) rfl rfl ?_
    refine o_iconst X2 hx (hb hby at_17) (v := 0) rfl ?_
    refine o_lloadN X2 hx (hb hby at_18) rfl ?_
    refine o_l2i X2 hx (hb hby at_19) ?_
    refine o_i2b X2 hx (hb hby at_20) ?_
    exact kt
  obtain ⟨cl6, Ar6, q6, Sz6, Nn6, Hs6, G6⟩ := id V2
  have hin6 : ¬ ((0 : Int32) < 0 ∨ cl6.slots.size ≤ ((0 : Int32)).toNatClampNeg) := inb_of Sz6 ⟨by decide, by decide⟩
  obtain ⟨T6, h6, X6, e6, W6, st6⟩ := stB X2 hx hZ e2 Ar6 (j := (0 : Int32)) hin6 (g := (mkF m 21 #[vi p1, vi p2, vj q3, .second, vi (p1 &&& (3 : Int32)), vi (p2.toInt16.toInt32), vr b2, .unset, .unset, .unset, .unset] [(.int ((q3.toInt32).toInt8.toInt32)), (.int (0 : Int32)), (.ref b2)])) rfl rfl (hb hby at_21)
  rw [own_nar_byte] at W6
  have V6 : Arv Z h6 b2 k2 .byte (8 : Int32) [(.int ((q3.toInt32).toInt8.toInt32)), (.int (0 : Int32)), (.int (0 : Int32)), (.int (0 : Int32)), (.int (0 : Int32)), (.int (0 : Int32)), (.int (0 : Int32)), (.int (0 : Int32))] (.int (0 : Int32)) := Arv.set Ar6 q6 Sz6 Nn6 Hs6 G6 (fits_nar_byte _) W6 0 rfl (Nat.le_of_ble_eq_true rfl)
  have Z7 : n0 ≤ h6.size := Nat.le_trans Z3 (Keep.of_wr W6).1
  have N6 := Fr.snoc X6 N0 g_b2
  have go8 : Go p e below s₁ F0 T6 (mkF m 22 #[vi p1, vi p2, vj q3, .second, vi (p1 &&& (3 : Int32)), vi (p2.toInt16.toInt32), vr b2, .unset, .unset, .unset, .unset] []) := fun t k => go5 t (st6 t k)
  have go9 : Go p e below s₁ F0 T6 (mkF m 31 #[vi p1, vi p2, vj q3, .second, vi (p1 &&& (3 : Int32)), vi (p2.toInt16.toInt32), vr b2, .unset, .unset, .unset, .unset] [(.int (((q3 >>> ((8 : Int32) &&& 0x3f).toInt64).toInt32).toInt8.toInt32)), (.int (1 : Int32)), (.ref b2)]) := by
    intro t kt
    refine go8 t ?_
    refine o_aload X6 hx (hb hby at_22) rfl rfl ?_
    refine o_iconst X6 hx (hb hby at_24) (v := 1) rfl ?_
    refine o_lloadN X6 hx (hb hby at_25) rfl ?_
    refine o_bipush X6 hx (hb hby at_26) (v := 8) rfl ?_
    refine o_lshr X6 hx (hb hby at_28) ?_
    refine o_l2i X6 hx (hb hby at_29) ?_
    refine o_i2b X6 hx (hb hby at_30) ?_
    exact kt
  obtain ⟨cl10, Ar10, q10, Sz10, Nn10, Hs10, G10⟩ := id V6
  have hin10 : ¬ ((1 : Int32) < 0 ∨ cl10.slots.size ≤ ((1 : Int32)).toNatClampNeg) := inb_of Sz10 ⟨by decide, by decide⟩
  obtain ⟨T10, h10, X10, e10, W10, st10⟩ := stB X6 hx hZ e6 Ar10 (j := (1 : Int32)) hin10 (g := (mkF m 31 #[vi p1, vi p2, vj q3, .second, vi (p1 &&& (3 : Int32)), vi (p2.toInt16.toInt32), vr b2, .unset, .unset, .unset, .unset] [(.int (((q3 >>> ((8 : Int32) &&& 0x3f).toInt64).toInt32).toInt8.toInt32)), (.int (1 : Int32)), (.ref b2)])) rfl rfl (hb hby at_31)
  rw [own_nar_byte] at W10
  have V10 : Arv Z h10 b2 k2 .byte (8 : Int32) [(.int ((q3.toInt32).toInt8.toInt32)), (.int (((q3 >>> ((8 : Int32) &&& 0x3f).toInt64).toInt32).toInt8.toInt32)), (.int (0 : Int32)), (.int (0 : Int32)), (.int (0 : Int32)), (.int (0 : Int32)), (.int (0 : Int32)), (.int (0 : Int32))] (.int (0 : Int32)) := Arv.set Ar10 q10 Sz10 Nn10 Hs10 G10 (fits_nar_byte _) W10 1 rfl (Nat.le_of_ble_eq_true rfl)
  have Z11 : n0 ≤ h10.size := Nat.le_trans Z7 (Keep.of_wr W10).1
  have N10 := Fr.snoc X10 N6 g_b2
  have go12 : Go p e below s₁ F0 T10 (mkF m 32 #[vi p1, vi p2, vj q3, .second, vi (p1 &&& (3 : Int32)), vi (p2.toInt16.toInt32), vr b2, .unset, .unset, .unset, .unset] []) := fun t k => go9 t (st10 t k)
  have go13 : Go p e below s₁ F0 T10 (mkF m 41 #[vi p1, vi p2, vj q3, .second, vi (p1 &&& (3 : Int32)), vi (p2.toInt16.toInt32), vr b2, .unset, .unset, .unset, .unset] [(.int (((q3 >>> ((16 : Int32) &&& 0x3f).toInt64).toInt32).toInt8.toInt32)), (.int (2 : Int32)), (.ref b2)]) := by
    intro t kt
    refine go12 t ?_
    refine o_aload X10 hx (hb hby at_32) rfl rfl ?_
    refine o_iconst X10 hx (hb hby at_34) (v := 2) rfl ?_
    refine o_lloadN X10 hx (hb hby at_35) rfl ?_
    refine o_bipush X10 hx (hb hby at_36) (v := 16) rfl ?_
    refine o_lshr X10 hx (hb hby at_38) ?_
    refine o_l2i X10 hx (hb hby at_39) ?_
    refine o_i2b X10 hx (hb hby at_40) ?_
    exact kt
  obtain ⟨cl14, Ar14, q14, Sz14, Nn14, Hs14, G14⟩ := id V10
  have hin14 : ¬ ((2 : Int32) < 0 ∨ cl14.slots.size ≤ ((2 : Int32)).toNatClampNeg) := inb_of Sz14 ⟨by decide, by decide⟩
  obtain ⟨T14, h14, X14, e14, W14, st14⟩ := stB X10 hx hZ e10 Ar14 (j := (2 : Int32)) hin14 (g := (mkF m 41 #[vi p1, vi p2, vj q3, .second, vi (p1 &&& (3 : Int32)), vi (p2.toInt16.toInt32), vr b2, .unset, .unset, .unset, .unset] [(.int (((q3 >>> ((16 : Int32) &&& 0x3f).toInt64).toInt32).toInt8.toInt32)), (.int (2 : Int32)), (.ref b2)])) rfl rfl (hb hby at_41)
  rw [own_nar_byte] at W14
  have V14 : Arv Z h14 b2 k2 .byte (8 : Int32) [(.int ((q3.toInt32).toInt8.toInt32)), (.int (((q3 >>> ((8 : Int32) &&& 0x3f).toInt64).toInt32).toInt8.toInt32)), (.int (((q3 >>> ((16 : Int32) &&& 0x3f).toInt64).toInt32).toInt8.toInt32)), (.int (0 : Int32)), (.int (0 : Int32)), (.int (0 : Int32)), (.int (0 : Int32)), (.int (0 : Int32))] (.int (0 : Int32)) := Arv.set Ar14 q14 Sz14 Nn14 Hs14 G14 (fits_nar_byte _) W14 2 rfl (Nat.le_of_ble_eq_true rfl)
  have Z15 : n0 ≤ h14.size := Nat.le_trans Z11 (Keep.of_wr W14).1
  have N14 := Fr.snoc X14 N10 g_b2
  have go16 : Go p e below s₁ F0 T14 (mkF m 42 #[vi p1, vi p2, vj q3, .second, vi (p1 &&& (3 : Int32)), vi (p2.toInt16.toInt32), vr b2, .unset, .unset, .unset, .unset] []) := fun t k => go13 t (st14 t k)
  have go17 : Go p e below s₁ F0 T14 (mkF m 51 #[vi p1, vi p2, vj q3, .second, vi (p1 &&& (3 : Int32)), vi (p2.toInt16.toInt32), vr b2, .unset, .unset, .unset, .unset] [(.int (((q3 >>> ((24 : Int32) &&& 0x3f).toInt64).toInt32).toInt8.toInt32)), (.int (3 : Int32)), (.ref b2)]) := by
    intro t kt
    refine go16 t ?_
    refine o_aload X14 hx (hb hby at_42) rfl rfl ?_
    refine o_iconst X14 hx (hb hby at_44) (v := 3) rfl ?_
    refine o_lloadN X14 hx (hb hby at_45) rfl ?_
    refine o_bipush X14 hx (hb hby at_46) (v := 24) rfl ?_
    refine o_lshr X14 hx (hb hby at_48) ?_
    refine o_l2i X14 hx (hb hby at_49) ?_
    refine o_i2b X14 hx (hb hby at_50) ?_
    exact kt
  obtain ⟨cl18, Ar18, q18, Sz18, Nn18, Hs18, G18⟩ := id V14
  have hin18 : ¬ ((3 : Int32) < 0 ∨ cl18.slots.size ≤ ((3 : Int32)).toNatClampNeg) := inb_of Sz18 ⟨by decide, by decide⟩
  obtain ⟨T18, h18, X18, e18, W18, st18⟩ := stB X14 hx hZ e14 Ar18 (j := (3 : Int32)) hin18 (g := (mkF m 51 #[vi p1, vi p2, vj q3, .second, vi (p1 &&& (3 : Int32)), vi (p2.toInt16.toInt32), vr b2, .unset, .unset, .unset, .unset] [(.int (((q3 >>> ((24 : Int32) &&& 0x3f).toInt64).toInt32).toInt8.toInt32)), (.int (3 : Int32)), (.ref b2)])) rfl rfl (hb hby at_51)
  rw [own_nar_byte] at W18
  have V18 : Arv Z h18 b2 k2 .byte (8 : Int32) [(.int ((q3.toInt32).toInt8.toInt32)), (.int (((q3 >>> ((8 : Int32) &&& 0x3f).toInt64).toInt32).toInt8.toInt32)), (.int (((q3 >>> ((16 : Int32) &&& 0x3f).toInt64).toInt32).toInt8.toInt32)), (.int (((q3 >>> ((24 : Int32) &&& 0x3f).toInt64).toInt32).toInt8.toInt32)), (.int (0 : Int32)), (.int (0 : Int32)), (.int (0 : Int32)), (.int (0 : Int32))] (.int (0 : Int32)) := Arv.set Ar18 q18 Sz18 Nn18 Hs18 G18 (fits_nar_byte _) W18 3 rfl (Nat.le_of_ble_eq_true rfl)
  have Z19 : n0 ≤ h18.size := Nat.le_trans Z15 (Keep.of_wr W18).1
  have N18 := Fr.snoc X18 N14 g_b2
  have go20 : Go p e below s₁ F0 T18 (mkF m 52 #[vi p1, vi p2, vj q3, .second, vi (p1 &&& (3 : Int32)), vi (p2.toInt16.toInt32), vr b2, .unset, .unset, .unset, .unset] []) := fun t k => go17 t (st18 t k)
  have go21 : Go p e below s₁ F0 T18 (mkF m 61 #[vi p1, vi p2, vj q3, .second, vi (p1 &&& (3 : Int32)), vi (p2.toInt16.toInt32), vr b2, .unset, .unset, .unset, .unset] [(.int (((q3 >>> ((32 : Int32) &&& 0x3f).toInt64).toInt32).toInt8.toInt32)), (.int (4 : Int32)), (.ref b2)]) := by
    intro t kt
    refine go20 t ?_
    refine o_aload X18 hx (hb hby at_52) rfl rfl ?_
    refine o_iconst X18 hx (hb hby at_54) (v := 4) rfl ?_
    refine o_lloadN X18 hx (hb hby at_55) rfl ?_
    refine o_bipush X18 hx (hb hby at_56) (v := 32) rfl ?_
    refine o_lshr X18 hx (hb hby at_58) ?_
    refine o_l2i X18 hx (hb hby at_59) ?_
    refine o_i2b X18 hx (hb hby at_60) ?_
    exact kt
  obtain ⟨cl22, Ar22, q22, Sz22, Nn22, Hs22, G22⟩ := id V18
  have hin22 : ¬ ((4 : Int32) < 0 ∨ cl22.slots.size ≤ ((4 : Int32)).toNatClampNeg) := inb_of Sz22 ⟨by decide, by decide⟩
  obtain ⟨T22, h22, X22, e22, W22, st22⟩ := stB X18 hx hZ e18 Ar22 (j := (4 : Int32)) hin22 (g := (mkF m 61 #[vi p1, vi p2, vj q3, .second, vi (p1 &&& (3 : Int32)), vi (p2.toInt16.toInt32), vr b2, .unset, .unset, .unset, .unset] [(.int (((q3 >>> ((32 : Int32) &&& 0x3f).toInt64).toInt32).toInt8.toInt32)), (.int (4 : Int32)), (.ref b2)])) rfl rfl (hb hby at_61)
  rw [own_nar_byte] at W22
  have V22 : Arv Z h22 b2 k2 .byte (8 : Int32) [(.int ((q3.toInt32).toInt8.toInt32)), (.int (((q3 >>> ((8 : Int32) &&& 0x3f).toInt64).toInt32).toInt8.toInt32)), (.int (((q3 >>> ((16 : Int32) &&& 0x3f).toInt64).toInt32).toInt8.toInt32)), (.int (((q3 >>> ((24 : Int32) &&& 0x3f).toInt64).toInt32).toInt8.toInt32)), (.int (((q3 >>> ((32 : Int32) &&& 0x3f).toInt64).toInt32).toInt8.toInt32)), (.int (0 : Int32)), (.int (0 : Int32)), (.int (0 : Int32))] (.int (0 : Int32)) := Arv.set Ar22 q22 Sz22 Nn22 Hs22 G22 (fits_nar_byte _) W22 4 rfl (Nat.le_of_ble_eq_true rfl)
  have Z23 : n0 ≤ h22.size := Nat.le_trans Z19 (Keep.of_wr W22).1
  have N22 := Fr.snoc X22 N18 g_b2
  have go24 : Go p e below s₁ F0 T22 (mkF m 62 #[vi p1, vi p2, vj q3, .second, vi (p1 &&& (3 : Int32)), vi (p2.toInt16.toInt32), vr b2, .unset, .unset, .unset, .unset] []) := fun t k => go21 t (st22 t k)
  have go25 : Go p e below s₁ F0 T22 (mkF m 71 #[vi p1, vi p2, vj q3, .second, vi (p1 &&& (3 : Int32)), vi (p2.toInt16.toInt32), vr b2, .unset, .unset, .unset, .unset] [(.int (((q3 >>> ((40 : Int32) &&& 0x3f).toInt64).toInt32).toInt8.toInt32)), (.int (5 : Int32)), (.ref b2)]) := by
    intro t kt
    refine go24 t ?_
    refine o_aload X22 hx (hb hby at_62) rfl rfl ?_
    refine o_iconst X22 hx (hb hby at_64) (v := 5) rfl ?_
    refine o_lloadN X22 hx (hb hby at_65) rfl ?_
    refine o_bipush X22 hx (hb hby at_66) (v := 40) rfl ?_
    refine o_lshr X22 hx (hb hby at_68) ?_
    refine o_l2i X22 hx (hb hby at_69) ?_
    refine o_i2b X22 hx (hb hby at_70) ?_
    exact kt
  obtain ⟨cl26, Ar26, q26, Sz26, Nn26, Hs26, G26⟩ := id V22
  have hin26 : ¬ ((5 : Int32) < 0 ∨ cl26.slots.size ≤ ((5 : Int32)).toNatClampNeg) := inb_of Sz26 ⟨by decide, by decide⟩
  obtain ⟨T26, h26, X26, e26, W26, st26⟩ := stB X22 hx hZ e22 Ar26 (j := (5 : Int32)) hin26 (g := (mkF m 71 #[vi p1, vi p2, vj q3, .second, vi (p1 &&& (3 : Int32)), vi (p2.toInt16.toInt32), vr b2, .unset, .unset, .unset, .unset] [(.int (((q3 >>> ((40 : Int32) &&& 0x3f).toInt64).toInt32).toInt8.toInt32)), (.int (5 : Int32)), (.ref b2)])) rfl rfl (hb hby at_71)
  rw [own_nar_byte] at W26
  have V26 : Arv Z h26 b2 k2 .byte (8 : Int32) [(.int ((q3.toInt32).toInt8.toInt32)), (.int (((q3 >>> ((8 : Int32) &&& 0x3f).toInt64).toInt32).toInt8.toInt32)), (.int (((q3 >>> ((16 : Int32) &&& 0x3f).toInt64).toInt32).toInt8.toInt32)), (.int (((q3 >>> ((24 : Int32) &&& 0x3f).toInt64).toInt32).toInt8.toInt32)), (.int (((q3 >>> ((32 : Int32) &&& 0x3f).toInt64).toInt32).toInt8.toInt32)), (.int (((q3 >>> ((40 : Int32) &&& 0x3f).toInt64).toInt32).toInt8.toInt32)), (.int (0 : Int32)), (.int (0 : Int32))] (.int (0 : Int32)) := Arv.set Ar26 q26 Sz26 Nn26 Hs26 G26 (fits_nar_byte _) W26 5 rfl (Nat.le_of_ble_eq_true rfl)
  have Z27 : n0 ≤ h26.size := Nat.le_trans Z23 (Keep.of_wr W26).1
  have N26 := Fr.snoc X26 N22 g_b2
  have go28 : Go p e below s₁ F0 T26 (mkF m 72 #[vi p1, vi p2, vj q3, .second, vi (p1 &&& (3 : Int32)), vi (p2.toInt16.toInt32), vr b2, .unset, .unset, .unset, .unset] []) := fun t k => go25 t (st26 t k)
  have go29 : Go p e below s₁ F0 T26 (mkF m 82 #[vi p1, vi p2, vj q3, .second, vi (p1 &&& (3 : Int32)), vi (p2.toInt16.toInt32), vr b2, .unset, .unset, .unset, .unset] [(.int (((q3 >>> ((48 : Int32) &&& 0x3f).toInt64).toInt32).toInt8.toInt32)), (.int (6 : Int32)), (.ref b2)]) := by
    intro t kt
    refine go28 t ?_
    refine o_aload X26 hx (hb hby at_72) rfl rfl ?_
    refine o_bipush X26 hx (hb hby at_74) (v := 6) rfl ?_
    refine o_lloadN X26 hx (hb hby at_76) rfl ?_
    refine o_bipush X26 hx (hb hby at_77) (v := 48) rfl ?_
    refine o_lshr X26 hx (hb hby at_79) ?_
    refine o_l2i X26 hx (hb hby at_80) ?_
    refine o_i2b X26 hx (hb hby at_81) ?_
    exact kt
  obtain ⟨cl30, Ar30, q30, Sz30, Nn30, Hs30, G30⟩ := id V26
  have hin30 : ¬ ((6 : Int32) < 0 ∨ cl30.slots.size ≤ ((6 : Int32)).toNatClampNeg) := inb_of Sz30 ⟨by decide, by decide⟩
  obtain ⟨T30, h30, X30, e30, W30, st30⟩ := stB X26 hx hZ e26 Ar30 (j := (6 : Int32)) hin30 (g := (mkF m 82 #[vi p1, vi p2, vj q3, .second, vi (p1 &&& (3 : Int32)), vi (p2.toInt16.toInt32), vr b2, .unset, .unset, .unset, .unset] [(.int (((q3 >>> ((48 : Int32) &&& 0x3f).toInt64).toInt32).toInt8.toInt32)), (.int (6 : Int32)), (.ref b2)])) rfl rfl (hb hby at_82)
  rw [own_nar_byte] at W30
  have V30 : Arv Z h30 b2 k2 .byte (8 : Int32) [(.int ((q3.toInt32).toInt8.toInt32)), (.int (((q3 >>> ((8 : Int32) &&& 0x3f).toInt64).toInt32).toInt8.toInt32)), (.int (((q3 >>> ((16 : Int32) &&& 0x3f).toInt64).toInt32).toInt8.toInt32)), (.int (((q3 >>> ((24 : Int32) &&& 0x3f).toInt64).toInt32).toInt8.toInt32)), (.int (((q3 >>> ((32 : Int32) &&& 0x3f).toInt64).toInt32).toInt8.toInt32)), (.int (((q3 >>> ((40 : Int32) &&& 0x3f).toInt64).toInt32).toInt8.toInt32)), (.int (((q3 >>> ((48 : Int32) &&& 0x3f).toInt64).toInt32).toInt8.toInt32)), (.int (0 : Int32))] (.int (0 : Int32)) := Arv.set Ar30 q30 Sz30 Nn30 Hs30 G30 (fits_nar_byte _) W30 6 rfl (Nat.le_of_ble_eq_true rfl)
  have Z31 : n0 ≤ h30.size := Nat.le_trans Z27 (Keep.of_wr W30).1
  have N30 := Fr.snoc X30 N26 g_b2
  have go32 : Go p e below s₁ F0 T30 (mkF m 83 #[vi p1, vi p2, vj q3, .second, vi (p1 &&& (3 : Int32)), vi (p2.toInt16.toInt32), vr b2, .unset, .unset, .unset, .unset] []) := fun t k => go29 t (st30 t k)
  have go33 : Go p e below s₁ F0 T30 (mkF m 93 #[vi p1, vi p2, vj q3, .second, vi (p1 &&& (3 : Int32)), vi (p2.toInt16.toInt32), vr b2, .unset, .unset, .unset, .unset] [(.int (((q3 >>> ((56 : Int32) &&& 0x3f).toInt64).toInt32).toInt8.toInt32)), (.int (7 : Int32)), (.ref b2)]) := by
    intro t kt
    refine go32 t ?_
    refine o_aload X30 hx (hb hby at_83) rfl rfl ?_
    refine o_bipush X30 hx (hb hby at_85) (v := 7) rfl ?_
    refine o_lloadN X30 hx (hb hby at_87) rfl ?_
    refine o_bipush X30 hx (hb hby at_88) (v := 56) rfl ?_
    refine o_lshr X30 hx (hb hby at_90) ?_
    refine o_l2i X30 hx (hb hby at_91) ?_
    refine o_i2b X30 hx (hb hby at_92) ?_
    exact kt
  obtain ⟨cl34, Ar34, q34, Sz34, Nn34, Hs34, G34⟩ := id V30
  have hin34 : ¬ ((7 : Int32) < 0 ∨ cl34.slots.size ≤ ((7 : Int32)).toNatClampNeg) := inb_of Sz34 ⟨by decide, by decide⟩
  obtain ⟨T34, h34, X34, e34, W34, st34⟩ := stB X30 hx hZ e30 Ar34 (j := (7 : Int32)) hin34 (g := (mkF m 93 #[vi p1, vi p2, vj q3, .second, vi (p1 &&& (3 : Int32)), vi (p2.toInt16.toInt32), vr b2, .unset, .unset, .unset, .unset] [(.int (((q3 >>> ((56 : Int32) &&& 0x3f).toInt64).toInt32).toInt8.toInt32)), (.int (7 : Int32)), (.ref b2)])) rfl rfl (hb hby at_93)
  rw [own_nar_byte] at W34
  have V34 : Arv Z h34 b2 k2 .byte (8 : Int32) [(.int ((q3.toInt32).toInt8.toInt32)), (.int (((q3 >>> ((8 : Int32) &&& 0x3f).toInt64).toInt32).toInt8.toInt32)), (.int (((q3 >>> ((16 : Int32) &&& 0x3f).toInt64).toInt32).toInt8.toInt32)), (.int (((q3 >>> ((24 : Int32) &&& 0x3f).toInt64).toInt32).toInt8.toInt32)), (.int (((q3 >>> ((32 : Int32) &&& 0x3f).toInt64).toInt32).toInt8.toInt32)), (.int (((q3 >>> ((40 : Int32) &&& 0x3f).toInt64).toInt32).toInt8.toInt32)), (.int (((q3 >>> ((48 : Int32) &&& 0x3f).toInt64).toInt32).toInt8.toInt32)), (.int (((q3 >>> ((56 : Int32) &&& 0x3f).toInt64).toInt32).toInt8.toInt32))] (.int (0 : Int32)) := Arv.set Ar34 q34 Sz34 Nn34 Hs34 G34 (fits_nar_byte _) W34 7 rfl (Nat.le_of_ble_eq_true rfl)
  have Z35 : n0 ≤ h34.size := Nat.le_trans Z31 (Keep.of_wr W34).1
  have N34 := Fr.snoc X34 N30 g_b2
  have go36 : Go p e below s₁ F0 T34 (mkF m 94 #[vi p1, vi p2, vj q3, .second, vi (p1 &&& (3 : Int32)), vi (p2.toInt16.toInt32), vr b2, .unset, .unset, .unset, .unset] []) := fun t k => go33 t (st34 t k)
  have hcs37 : (p1 &&& (3 : Int32)) = (0 : Int32) ∨ (p1 &&& (3 : Int32)) = (1 : Int32) ∨ (p1 &&& (3 : Int32)) = (2 : Int32) ∨ (p1 &&& (3 : Int32)) = (3 : Int32) := own_4 _
  rcases hcs37 with hcs37 | hcs37 | hcs37 | hcs37
  · skip
    have go38 : Go p e below s₁ F0 T34 (mkF m 94 #[vi p1, vi p2, vj q3, .second, vi (0 : Int32), vi (p2.toInt16.toInt32), vr b2, .unset, .unset, .unset, .unset] []) := by rw [hcs37] at go36; exact go36
    have go39 : Go p e below s₁ F0 T34 (mkF m 100 #[vi p1, vi p2, vj q3, .second, vi (0 : Int32), vi (p2.toInt16.toInt32), vr b2, .unset, .unset, .unset, .unset] [(.int (p2.toInt16.toInt32)), (.int (0 : Int32)), (.ref b2)]) := by
      intro t kt
      refine go38 t ?_
      refine o_aload X34 hx (hb hby at_94) rfl rfl ?_
      refine o_iload X34 hx (hb hby at_96) rfl ?_
      refine o_iload X34 hx (hb hby at_98) rfl ?_
      exact kt
    obtain ⟨_, _, ⟨T40, L40, k40, n40⟩, -, X40, ⟨Lc40, hQ40, l40, y40, z40⟩, st40⟩ := Jvm.LawKit.callS X34 hx (y := y_0) hown (mvT hZ (own_w hw 1 rfl)) (mvT hZ (own_w hw 2 rfl)) (mvT hZ (own_w hw 3 rfl)) (mvT hZ (own_w hw 4 rfl)) (by decide) (backOf (W := 0) (rm1_0 l Z a0 hw [] b2 (p2.toInt16.toInt32) k2 ((q3.toInt32).toInt8.toInt32) (((q3 >>> ((8 : Int32) &&& 0x3f).toInt64).toInt32).toInt8.toInt32) (((q3 >>> ((16 : Int32) &&& 0x3f).toInt64).toInt32).toInt8.toInt32) (((q3 >>> ((24 : Int32) &&& 0x3f).toInt64).toInt32).toInt8.toInt32) (((q3 >>> ((32 : Int32) &&& 0x3f).toInt64).toInt32).toInt8.toInt32) (((q3 >>> ((40 : Int32) &&& 0x3f).toInt64).toInt32).toInt8.toInt32) (((q3 >>> ((48 : Int32) &&& 0x3f).toInt64).toInt32).toInt8.toInt32) (((q3 >>> ((56 : Int32) &&& 0x3f).toInt64).toInt32).toInt8.toInt32) h34 n0 Z35 V34 g_b2) hZ (own_w hw 4 rfl) (own_w hw 3 rfl) (by decide) (by decide)) (g := (mkF m 100 #[vi p1, vi p2, vj q3, .second, vi (0 : Int32), vi (p2.toInt16.toInt32), vr b2, .unset, .unset, .unset, .unset] [(.int (p2.toInt16.toInt32)), (.int (0 : Int32)), (.ref b2)])) rfl (by rw [hml]; rfl) (argsL := [(.ref b2), (.int (0 : Int32)), (.int (p2.toInt16.toInt32))]) (rest := []) (lenOf pd0_0 rfl) rfl (by show 2 * 0 + _ ≤ _; exact Nat.le_of_eq rfl) (hb hby at_100) (fun _ _ => ⟨rfl, e34, (by decide : 1 + 0 ≤ _), (by decide : 8 + 0 ≤ _)⟩)
    dsimp only [Pt.U, Pt.locs, Pt.cells, Pt.slots] at X40 l40 y40 z40 st40 hQ40
    subst l40 y40 z40
    obtain ⟨rfl, Nq40, Kc40, V_40⟩ := hQ40
    have N40 := Fr.app N34 Nq40
    have Z41 : n0 ≤ T40.heap.size := Nat.le_trans Z35 Kc40.1
    have go42 : Go p e below s₁ F0 T40 (mkF m 103 #[vi p1, vi p2, vj q3, .second, vi (0 : Int32), vi (p2.toInt16.toInt32), vr b2, .unset, .unset, .unset, .unset] []) := fun t k => go39 t (st40 t k)
    have go43 : Go p e below s₁ F0 T40 (mkF m 109 #[vi p1, vi p2, vj q3, .second, vi (0 : Int32), vi (p2.toInt16.toInt32), vr b2, .unset, .unset, .unset, .unset] [(.int (0 : Int32)), (.ref b2)]) := by
      intro t kt
      refine go42 t ?_
      refine o_aload X40 hx (hb hby at_103) rfl rfl ?_
      refine o_iconst X40 hx (hb hby at_105) (v := 2) rfl ?_
      refine o_iload X40 hx (hb hby at_106) rfl ?_
      refine o_imulE X40 hx (hb hby at_108) (v := 0) rfl ?_
      exact kt
    obtain ⟨cl44, Ar44, -, Sz44, Nn44, Hs44, -⟩ := id V_40
    have hin44 : ¬ ((0 : Int32) < 0 ∨ cl44.slots.size ≤ ((0 : Int32)).toNatClampNeg) := inb_of Sz44 ⟨by decide, by decide⟩
    have hat44 : cl44.slots[((0 : Int32)).toNatClampNeg]? = some (.int ((p2.toInt16.toInt32).toInt8.toInt32)) := Hs44.at hin44 rfl
    have go45 : Go p e below s₁ F0 T40 (mkF m 124 #[vi p1, vi p2, vj q3, .second, vi (0 : Int32), vi (p2.toInt16.toInt32), vr b2, vi (((p2.toInt16.toInt32).toInt8.toInt32) &&& (255 : Int32)), .unset, .unset, .unset] [(.int (1 : Int32)), (.ref b2)]) := by
      intro t kt
      refine go43 t ?_
      refine o_baload X40 hx hZ rfl Ar44 hin44 hat44 (hb hby at_109) ?_
      refine o_sipush X40 hx (hb hby at_110) (v := 255) rfl ?_
      refine o_iand X40 hx (hb hby at_113) ?_
      refine o_istore X40 hx (hb hby at_114) (L' := #[vi p1, vi p2, vj q3, .second, vi (0 : Int32), vi (p2.toInt16.toInt32), vr b2, vi (((p2.toInt16.toInt32).toInt8.toInt32) &&& (255 : Int32)), .unset, .unset, .unset]) rfl ?_
      refine o_aload X40 hx (hb hby at_116) rfl rfl ?_
      refine o_iconst X40 hx (hb hby at_118) (v := 2) rfl ?_
      refine o_iload X40 hx (hb hby at_119) rfl ?_
      refine o_imulE X40 hx (hb hby at_121) (v := 0) rfl ?_
      refine o_iconst X40 hx (hb hby at_122) (v := 1) rfl ?_
      refine o_iaddE X40 hx (hb hby at_123) (v := 1) rfl ?_
      exact kt
    obtain ⟨cl46, Ar46, -, Sz46, Nn46, Hs46, -⟩ := id V_40
    have hin46 : ¬ ((1 : Int32) < 0 ∨ cl46.slots.size ≤ ((1 : Int32)).toNatClampNeg) := inb_of Sz46 ⟨by decide, by decide⟩
    have hat46 : cl46.slots[((1 : Int32)).toNatClampNeg]? = some (.int (((p2.toInt16.toInt32) >>> ((8 : Int32) &&& 31)).toInt8.toInt32)) := Hs46.at hin46 rfl
    have go48 : Go p e below s₁ F0 T40 (mkF m 138 #[vi p1, vi p2, vj q3, .second, vi (0 : Int32), vi (p2.toInt16.toInt32), vr b2, vi (((p2.toInt16.toInt32).toInt8.toInt32) &&& (255 : Int32)), vi (((p2.toInt16.toInt32) >>> ((8 : Int32) &&& 31)).toInt8.toInt32), .unset, .unset] [(.int (p2.toInt16.toInt32)), (.int (((((p2.toInt16.toInt32) >>> ((8 : Int32) &&& 31)).toInt8.toInt32) * (256 : Int32)) + (((p2.toInt16.toInt32).toInt8.toInt32) &&& (255 : Int32))))]) := by
      intro t kt
      refine go45 t ?_
      refine o_baload X40 hx hZ rfl Ar46 hin46 hat46 (hb hby at_124) ?_
      refine o_istore X40 hx (hb hby at_125) (L' := #[vi p1, vi p2, vj q3, .second, vi (0 : Int32), vi (p2.toInt16.toInt32), vr b2, vi (((p2.toInt16.toInt32).toInt8.toInt32) &&& (255 : Int32)), vi (((p2.toInt16.toInt32) >>> ((8 : Int32) &&& 31)).toInt8.toInt32), .unset, .unset]) rfl ?_
      refine o_iload X40 hx (hb hby at_127) rfl ?_
      refine o_sipush X40 hx (hb hby at_129) (v := 256) rfl ?_
      refine o_imul X40 hx (hb hby at_132) ?_
      refine o_iload X40 hx (hb hby at_133) rfl ?_
      refine o_iadd X40 hx (hb hby at_135) ?_
      refine o_iload X40 hx (hb hby at_136) rfl ?_
      exact kt
    have hd47 : (((((p2.toInt16.toInt32) >>> ((8 : Int32) &&& 31)).toInt8.toInt32) * (256 : Int32)) + (((p2.toInt16.toInt32).toInt8.toInt32) &&& (255 : Int32))) = (p2.toInt16.toInt32) := own_law _
    have go49 : Go p e below s₁ F0 T40 (mkF m 154 #[vi p1, vi p2, vj q3, .second, vi (0 : Int32), vi (p2.toInt16.toInt32), vr b2, vi (((p2.toInt16.toInt32).toInt8.toInt32) &&& (255 : Int32)), vi (((p2.toInt16.toInt32) >>> ((8 : Int32) &&& 31)).toInt8.toInt32), vi (1 : Int32), .unset] [(.long q3), (.int (0 : Int32)), (.int (0 : Int32)), (.ref b2)]) := by
      intro t kt
      refine go48 t ?_
      refine o_icmpNo X40 hx (hb hby at_138) (teq hd47).2 ?_
      refine o_iconst X40 hx (hb hby at_141) (v := 1) rfl ?_
      refine o_goto X40 hx (hb hby at_142) (pc' := 146) rfl (by decide) ?_
      refine o_istore X40 hx (hb hby at_146) (L' := #[vi p1, vi p2, vj q3, .second, vi (0 : Int32), vi (p2.toInt16.toInt32), vr b2, vi (((p2.toInt16.toInt32).toInt8.toInt32) &&& (255 : Int32)), vi (((p2.toInt16.toInt32) >>> ((8 : Int32) &&& 31)).toInt8.toInt32), vi (1 : Int32), .unset]) rfl ?_
      refine o_aload X40 hx (hb hby at_148) rfl rfl ?_
      refine o_iconst X40 hx (hb hby at_150) (v := 0) rfl ?_
      refine o_iload X40 hx (hb hby at_151) rfl ?_
      refine o_lloadN X40 hx (hb hby at_153) rfl ?_
      exact kt
    obtain ⟨_, _, ⟨T50, L50, k50, n50⟩, -, X50, ⟨Lc50, hQ50, l50, y50, z50⟩, st50⟩ := Jvm.LawKit.callS X40 hx (y := y_1) hown (mvT hZ (own_w hw 5 rfl)) (mvT hZ (own_w hw 6 rfl)) (mvT hZ (own_w hw 7 rfl)) (mvT hZ (own_w hw 8 rfl)) (by decide) (backOf (W := 0) (rm2_0_0 l Z a0 hw [] b2 q3 k2 ((p2.toInt16.toInt32).toInt8.toInt32) (((p2.toInt16.toInt32) >>> ((8 : Int32) &&& 31)).toInt8.toInt32) (((q3 >>> ((16 : Int32) &&& 0x3f).toInt64).toInt32).toInt8.toInt32) (((q3 >>> ((24 : Int32) &&& 0x3f).toInt64).toInt32).toInt8.toInt32) (((q3 >>> ((32 : Int32) &&& 0x3f).toInt64).toInt32).toInt8.toInt32) (((q3 >>> ((40 : Int32) &&& 0x3f).toInt64).toInt32).toInt8.toInt32) (((q3 >>> ((48 : Int32) &&& 0x3f).toInt64).toInt32).toInt8.toInt32) (((q3 >>> ((56 : Int32) &&& 0x3f).toInt64).toInt32).toInt8.toInt32) (T40.heap) n0 Z41 V_40) hZ (own_w hw 8 rfl) (own_w hw 7 rfl) (by decide) (by decide)) (g := (mkF m 154 #[vi p1, vi p2, vj q3, .second, vi (0 : Int32), vi (p2.toInt16.toInt32), vr b2, vi (((p2.toInt16.toInt32).toInt8.toInt32) &&& (255 : Int32)), vi (((p2.toInt16.toInt32) >>> ((8 : Int32) &&& 31)).toInt8.toInt32), vi (1 : Int32), .unset] [(.long q3), (.int (0 : Int32)), (.int (0 : Int32)), (.ref b2)])) rfl (by rw [hml]; rfl) (argsL := [(.ref b2), (.int (0 : Int32)), (.int (0 : Int32)), (.long q3)]) (rest := []) (lenOf pd0_1 rfl) rfl (by show 2 * 0 + _ ≤ _; exact Nat.le_of_eq rfl) (hb hby at_154) (fun _ _ => ⟨rfl, rfl, (by decide : 1 + 0 ≤ _), (by decide : 8 + 0 ≤ _)⟩)
    dsimp only [Pt.U, Pt.locs, Pt.cells, Pt.slots] at X50 l50 y50 z50 st50 hQ50
    subst l50 y50 z50
    obtain ⟨rfl, Nq50, eh50⟩ := hQ50
    have N50 := Fr.app N40 Nq50
    have go51 : Go p e below s₁ F0 T50 (mkF m 157 #[vi p1, vi p2, vj q3, .second, vi (0 : Int32), vi (p2.toInt16.toInt32), vr b2, vi (((p2.toInt16.toInt32).toInt8.toInt32) &&& (255 : Int32)), vi (((p2.toInt16.toInt32) >>> ((8 : Int32) &&& 31)).toInt8.toInt32), vi (1 : Int32), .unset] [(.int (1 : Int32))]) := fun t k => go49 t (st50 t k)
    have go52 : Go p e below s₁ F0 T50 (mkF m 166 #[vi p1, vi p2, vj q3, .second, vi (0 : Int32), vi (p2.toInt16.toInt32), vr b2, vi (((p2.toInt16.toInt32).toInt8.toInt32) &&& (255 : Int32)), vi (((p2.toInt16.toInt32) >>> ((8 : Int32) &&& 31)).toInt8.toInt32), vi (1 : Int32), .unset] [(.long q3), (.int (0 : Int32)), (.int (1 : Int32)), (.ref b2)]) := by
      intro t kt
      refine go51 t ?_
      refine o_ifNo X50 hx (hb hby at_157) ((if0 _ _).trans (feq (by decide : ¬ ((1 : Int32) = (0 : Int32)))).1) ?_
      refine o_aload X50 hx (hb hby at_160) rfl rfl ?_
      refine o_iconst X50 hx (hb hby at_162) (v := 1) rfl ?_
      refine o_iload X50 hx (hb hby at_163) rfl ?_
      refine o_lloadN X50 hx (hb hby at_165) rfl ?_
      exact kt
    obtain ⟨_, _, ⟨T53, L53, k53, n53⟩, -, X53, ⟨Lc53, hQ53, l53, y53, z53⟩, st53⟩ := Jvm.LawKit.callS X50 hx (y := y_1) hown (mvT hZ (own_w hw 5 rfl)) (mvT hZ (own_w hw 6 rfl)) (mvT hZ (own_w hw 7 rfl)) (mvT hZ (own_w hw 8 rfl)) (by decide) (backOf (W := 0) (rm2_0_1 l Z a0 hw [] b2 q3 k2 ((p2.toInt16.toInt32).toInt8.toInt32) (((p2.toInt16.toInt32) >>> ((8 : Int32) &&& 31)).toInt8.toInt32) (((q3 >>> ((16 : Int32) &&& 0x3f).toInt64).toInt32).toInt8.toInt32) (((q3 >>> ((24 : Int32) &&& 0x3f).toInt64).toInt32).toInt8.toInt32) (((q3 >>> ((32 : Int32) &&& 0x3f).toInt64).toInt32).toInt8.toInt32) (((q3 >>> ((40 : Int32) &&& 0x3f).toInt64).toInt32).toInt8.toInt32) (((q3 >>> ((48 : Int32) &&& 0x3f).toInt64).toInt32).toInt8.toInt32) (((q3 >>> ((56 : Int32) &&& 0x3f).toInt64).toInt32).toInt8.toInt32) (T40.heap) n0 Z41 V_40) hZ (own_w hw 8 rfl) (own_w hw 7 rfl) (by decide) (by decide)) (g := (mkF m 166 #[vi p1, vi p2, vj q3, .second, vi (0 : Int32), vi (p2.toInt16.toInt32), vr b2, vi (((p2.toInt16.toInt32).toInt8.toInt32) &&& (255 : Int32)), vi (((p2.toInt16.toInt32) >>> ((8 : Int32) &&& 31)).toInt8.toInt32), vi (1 : Int32), .unset] [(.long q3), (.int (0 : Int32)), (.int (1 : Int32)), (.ref b2)])) rfl (by rw [hml]; rfl) (argsL := [(.ref b2), (.int (1 : Int32)), (.int (0 : Int32)), (.long q3)]) (rest := []) (lenOf pd0_1 rfl) rfl (by show 2 * 0 + _ ≤ _; exact Nat.le_of_eq rfl) (hb hby at_166) (fun _ _ => ⟨rfl, eh50, (by decide : 1 + 0 ≤ _), (by decide : 8 + 0 ≤ _)⟩)
    dsimp only [Pt.U, Pt.locs, Pt.cells, Pt.slots] at X53 l53 y53 z53 st53 hQ53
    subst l53 y53 z53
    obtain ⟨rfl, Nq53, eh53⟩ := hQ53
    have N53 := Fr.app N50 Nq53
    have go54 : Go p e below s₁ F0 T53 (mkF m 169 #[vi p1, vi p2, vj q3, .second, vi (0 : Int32), vi (p2.toInt16.toInt32), vr b2, vi (((p2.toInt16.toInt32).toInt8.toInt32) &&& (255 : Int32)), vi (((p2.toInt16.toInt32) >>> ((8 : Int32) &&& 31)).toInt8.toInt32), vi (1 : Int32), .unset] [(.int (1 : Int32))]) := fun t k => go52 t (st53 t k)
    have go55 : Go p e below s₁ F0 T53 (mkF m 178 #[vi p1, vi p2, vj q3, .second, vi (0 : Int32), vi (p2.toInt16.toInt32), vr b2, vi (((p2.toInt16.toInt32).toInt8.toInt32) &&& (255 : Int32)), vi (((p2.toInt16.toInt32) >>> ((8 : Int32) &&& 31)).toInt8.toInt32), vi (1 : Int32), .unset] [(.long q3), (.int (0 : Int32)), (.int (2 : Int32)), (.ref b2)]) := by
      intro t kt
      refine go54 t ?_
      refine o_ifNo X53 hx (hb hby at_169) ((if0 _ _).trans (feq (by decide : ¬ ((1 : Int32) = (0 : Int32)))).1) ?_
      refine o_aload X53 hx (hb hby at_172) rfl rfl ?_
      refine o_iconst X53 hx (hb hby at_174) (v := 2) rfl ?_
      refine o_iload X53 hx (hb hby at_175) rfl ?_
      refine o_lloadN X53 hx (hb hby at_177) rfl ?_
      exact kt
    obtain ⟨_, _, ⟨T56, L56, k56, n56⟩, -, X56, ⟨Lc56, hQ56, l56, y56, z56⟩, st56⟩ := Jvm.LawKit.callS X53 hx (y := y_1) hown (mvT hZ (own_w hw 5 rfl)) (mvT hZ (own_w hw 6 rfl)) (mvT hZ (own_w hw 7 rfl)) (mvT hZ (own_w hw 8 rfl)) (by decide) (backOf (W := 0) (rm2_0_2 l Z a0 hw [] b2 q3 k2 ((p2.toInt16.toInt32).toInt8.toInt32) (((p2.toInt16.toInt32) >>> ((8 : Int32) &&& 31)).toInt8.toInt32) (((q3 >>> ((16 : Int32) &&& 0x3f).toInt64).toInt32).toInt8.toInt32) (((q3 >>> ((24 : Int32) &&& 0x3f).toInt64).toInt32).toInt8.toInt32) (((q3 >>> ((32 : Int32) &&& 0x3f).toInt64).toInt32).toInt8.toInt32) (((q3 >>> ((40 : Int32) &&& 0x3f).toInt64).toInt32).toInt8.toInt32) (((q3 >>> ((48 : Int32) &&& 0x3f).toInt64).toInt32).toInt8.toInt32) (((q3 >>> ((56 : Int32) &&& 0x3f).toInt64).toInt32).toInt8.toInt32) (T40.heap) n0 Z41 V_40 rfl) hZ (own_w hw 8 rfl) (own_w hw 7 rfl) (by decide) (by decide)) (g := (mkF m 178 #[vi p1, vi p2, vj q3, .second, vi (0 : Int32), vi (p2.toInt16.toInt32), vr b2, vi (((p2.toInt16.toInt32).toInt8.toInt32) &&& (255 : Int32)), vi (((p2.toInt16.toInt32) >>> ((8 : Int32) &&& 31)).toInt8.toInt32), vi (1 : Int32), .unset] [(.long q3), (.int (0 : Int32)), (.int (2 : Int32)), (.ref b2)])) rfl (by rw [hml]; rfl) (argsL := [(.ref b2), (.int (2 : Int32)), (.int (0 : Int32)), (.long q3)]) (rest := []) (lenOf pd0_1 rfl) rfl (by show 2 * 0 + _ ≤ _; exact Nat.le_of_eq rfl) (hb hby at_178) (fun _ _ => ⟨rfl, eh53, (by decide : 1 + 0 ≤ _), (by decide : 8 + 0 ≤ _)⟩)
    dsimp only [Pt.U, Pt.locs, Pt.cells, Pt.slots] at X56 l56 y56 z56 st56 hQ56
    subst l56 y56 z56
    obtain ⟨rfl, Nq56, eh56⟩ := hQ56
    have N56 := Fr.app N53 Nq56
    have go57 : Go p e below s₁ F0 T56 (mkF m 181 #[vi p1, vi p2, vj q3, .second, vi (0 : Int32), vi (p2.toInt16.toInt32), vr b2, vi (((p2.toInt16.toInt32).toInt8.toInt32) &&& (255 : Int32)), vi (((p2.toInt16.toInt32) >>> ((8 : Int32) &&& 31)).toInt8.toInt32), vi (1 : Int32), .unset] [(.int (1 : Int32))]) := fun t k => go55 t (st56 t k)
    have go58 : Go p e below s₁ F0 T56 (mkF m 190 #[vi p1, vi p2, vj q3, .second, vi (0 : Int32), vi (p2.toInt16.toInt32), vr b2, vi (((p2.toInt16.toInt32).toInt8.toInt32) &&& (255 : Int32)), vi (((p2.toInt16.toInt32) >>> ((8 : Int32) &&& 31)).toInt8.toInt32), vi (1 : Int32), .unset] [(.long q3), (.int (0 : Int32)), (.int (3 : Int32)), (.ref b2)]) := by
      intro t kt
      refine go57 t ?_
      refine o_ifNo X56 hx (hb hby at_181) ((if0 _ _).trans (feq (by decide : ¬ ((1 : Int32) = (0 : Int32)))).1) ?_
      refine o_aload X56 hx (hb hby at_184) rfl rfl ?_
      refine o_iconst X56 hx (hb hby at_186) (v := 3) rfl ?_
      refine o_iload X56 hx (hb hby at_187) rfl ?_
      refine o_lloadN X56 hx (hb hby at_189) rfl ?_
      exact kt
    obtain ⟨_, _, ⟨T59, L59, k59, n59⟩, -, X59, ⟨Lc59, hQ59, l59, y59, z59⟩, st59⟩ := Jvm.LawKit.callS X56 hx (y := y_1) hown (mvT hZ (own_w hw 5 rfl)) (mvT hZ (own_w hw 6 rfl)) (mvT hZ (own_w hw 7 rfl)) (mvT hZ (own_w hw 8 rfl)) (by decide) (backOf (W := 0) (rm2_0_3 l Z a0 hw [] b2 q3 k2 ((p2.toInt16.toInt32).toInt8.toInt32) (((p2.toInt16.toInt32) >>> ((8 : Int32) &&& 31)).toInt8.toInt32) (((q3 >>> ((16 : Int32) &&& 0x3f).toInt64).toInt32).toInt8.toInt32) (((q3 >>> ((24 : Int32) &&& 0x3f).toInt64).toInt32).toInt8.toInt32) (((q3 >>> ((32 : Int32) &&& 0x3f).toInt64).toInt32).toInt8.toInt32) (((q3 >>> ((40 : Int32) &&& 0x3f).toInt64).toInt32).toInt8.toInt32) (((q3 >>> ((48 : Int32) &&& 0x3f).toInt64).toInt32).toInt8.toInt32) (((q3 >>> ((56 : Int32) &&& 0x3f).toInt64).toInt32).toInt8.toInt32) (T40.heap) n0 Z41 V_40 rfl) hZ (own_w hw 8 rfl) (own_w hw 7 rfl) (by decide) (by decide)) (g := (mkF m 190 #[vi p1, vi p2, vj q3, .second, vi (0 : Int32), vi (p2.toInt16.toInt32), vr b2, vi (((p2.toInt16.toInt32).toInt8.toInt32) &&& (255 : Int32)), vi (((p2.toInt16.toInt32) >>> ((8 : Int32) &&& 31)).toInt8.toInt32), vi (1 : Int32), .unset] [(.long q3), (.int (0 : Int32)), (.int (3 : Int32)), (.ref b2)])) rfl (by rw [hml]; rfl) (argsL := [(.ref b2), (.int (3 : Int32)), (.int (0 : Int32)), (.long q3)]) (rest := []) (lenOf pd0_1 rfl) rfl (by show 2 * 0 + _ ≤ _; exact Nat.le_of_eq rfl) (hb hby at_190) (fun _ _ => ⟨rfl, eh56, (by decide : 1 + 0 ≤ _), (by decide : 8 + 0 ≤ _)⟩)
    dsimp only [Pt.U, Pt.locs, Pt.cells, Pt.slots] at X59 l59 y59 z59 st59 hQ59
    subst l59 y59 z59
    obtain ⟨rfl, Nq59, eh59⟩ := hQ59
    have N59 := Fr.app N56 Nq59
    have go60 : Go p e below s₁ F0 T59 (mkF m 193 #[vi p1, vi p2, vj q3, .second, vi (0 : Int32), vi (p2.toInt16.toInt32), vr b2, vi (((p2.toInt16.toInt32).toInt8.toInt32) &&& (255 : Int32)), vi (((p2.toInt16.toInt32) >>> ((8 : Int32) &&& 31)).toInt8.toInt32), vi (1 : Int32), .unset] [(.int (1 : Int32))]) := fun t k => go58 t (st59 t k)
    have go61 : Go p e below s₁ F0 T59 (mkF m 202 #[vi p1, vi p2, vj q3, .second, vi (0 : Int32), vi (p2.toInt16.toInt32), vr b2, vi (((p2.toInt16.toInt32).toInt8.toInt32) &&& (255 : Int32)), vi (((p2.toInt16.toInt32) >>> ((8 : Int32) &&& 31)).toInt8.toInt32), vi (1 : Int32), .unset] [(.long q3), (.int (0 : Int32)), (.int (4 : Int32)), (.ref b2)]) := by
      intro t kt
      refine go60 t ?_
      refine o_ifNo X59 hx (hb hby at_193) ((if0 _ _).trans (feq (by decide : ¬ ((1 : Int32) = (0 : Int32)))).1) ?_
      refine o_aload X59 hx (hb hby at_196) rfl rfl ?_
      refine o_iconst X59 hx (hb hby at_198) (v := 4) rfl ?_
      refine o_iload X59 hx (hb hby at_199) rfl ?_
      refine o_lloadN X59 hx (hb hby at_201) rfl ?_
      exact kt
    obtain ⟨_, _, ⟨T62, L62, k62, n62⟩, -, X62, ⟨Lc62, hQ62, l62, y62, z62⟩, st62⟩ := Jvm.LawKit.callS X59 hx (y := y_1) hown (mvT hZ (own_w hw 5 rfl)) (mvT hZ (own_w hw 6 rfl)) (mvT hZ (own_w hw 7 rfl)) (mvT hZ (own_w hw 8 rfl)) (by decide) (backOf (W := 0) (rm2_0_4 l Z a0 hw [] b2 q3 k2 ((p2.toInt16.toInt32).toInt8.toInt32) (((p2.toInt16.toInt32) >>> ((8 : Int32) &&& 31)).toInt8.toInt32) (((q3 >>> ((16 : Int32) &&& 0x3f).toInt64).toInt32).toInt8.toInt32) (((q3 >>> ((24 : Int32) &&& 0x3f).toInt64).toInt32).toInt8.toInt32) (((q3 >>> ((32 : Int32) &&& 0x3f).toInt64).toInt32).toInt8.toInt32) (((q3 >>> ((40 : Int32) &&& 0x3f).toInt64).toInt32).toInt8.toInt32) (((q3 >>> ((48 : Int32) &&& 0x3f).toInt64).toInt32).toInt8.toInt32) (((q3 >>> ((56 : Int32) &&& 0x3f).toInt64).toInt32).toInt8.toInt32) (T40.heap) n0 Z41 V_40 rfl) hZ (own_w hw 8 rfl) (own_w hw 7 rfl) (by decide) (by decide)) (g := (mkF m 202 #[vi p1, vi p2, vj q3, .second, vi (0 : Int32), vi (p2.toInt16.toInt32), vr b2, vi (((p2.toInt16.toInt32).toInt8.toInt32) &&& (255 : Int32)), vi (((p2.toInt16.toInt32) >>> ((8 : Int32) &&& 31)).toInt8.toInt32), vi (1 : Int32), .unset] [(.long q3), (.int (0 : Int32)), (.int (4 : Int32)), (.ref b2)])) rfl (by rw [hml]; rfl) (argsL := [(.ref b2), (.int (4 : Int32)), (.int (0 : Int32)), (.long q3)]) (rest := []) (lenOf pd0_1 rfl) rfl (by show 2 * 0 + _ ≤ _; exact Nat.le_of_eq rfl) (hb hby at_202) (fun _ _ => ⟨rfl, eh59, (by decide : 1 + 0 ≤ _), (by decide : 8 + 0 ≤ _)⟩)
    dsimp only [Pt.U, Pt.locs, Pt.cells, Pt.slots] at X62 l62 y62 z62 st62 hQ62
    subst l62 y62 z62
    obtain ⟨rfl, Nq62, eh62⟩ := hQ62
    have N62 := Fr.app N59 Nq62
    have go63 : Go p e below s₁ F0 T62 (mkF m 205 #[vi p1, vi p2, vj q3, .second, vi (0 : Int32), vi (p2.toInt16.toInt32), vr b2, vi (((p2.toInt16.toInt32).toInt8.toInt32) &&& (255 : Int32)), vi (((p2.toInt16.toInt32) >>> ((8 : Int32) &&& 31)).toInt8.toInt32), vi (1 : Int32), .unset] [(.int (1 : Int32))]) := fun t k => go61 t (st62 t k)
    have go64 : Go p e below s₁ F0 T62 (mkF m 214 #[vi p1, vi p2, vj q3, .second, vi (0 : Int32), vi (p2.toInt16.toInt32), vr b2, vi (((p2.toInt16.toInt32).toInt8.toInt32) &&& (255 : Int32)), vi (((p2.toInt16.toInt32) >>> ((8 : Int32) &&& 31)).toInt8.toInt32), vi (1 : Int32), .unset] [(.long q3), (.int (0 : Int32)), (.int (5 : Int32)), (.ref b2)]) := by
      intro t kt
      refine go63 t ?_
      refine o_ifNo X62 hx (hb hby at_205) ((if0 _ _).trans (feq (by decide : ¬ ((1 : Int32) = (0 : Int32)))).1) ?_
      refine o_aload X62 hx (hb hby at_208) rfl rfl ?_
      refine o_iconst X62 hx (hb hby at_210) (v := 5) rfl ?_
      refine o_iload X62 hx (hb hby at_211) rfl ?_
      refine o_lloadN X62 hx (hb hby at_213) rfl ?_
      exact kt
    obtain ⟨_, _, ⟨T65, L65, k65, n65⟩, -, X65, ⟨Lc65, hQ65, l65, y65, z65⟩, st65⟩ := Jvm.LawKit.callS X62 hx (y := y_1) hown (mvT hZ (own_w hw 5 rfl)) (mvT hZ (own_w hw 6 rfl)) (mvT hZ (own_w hw 7 rfl)) (mvT hZ (own_w hw 8 rfl)) (by decide) (backOf (W := 0) (rm2_0_5 l Z a0 hw [] b2 q3 k2 ((p2.toInt16.toInt32).toInt8.toInt32) (((p2.toInt16.toInt32) >>> ((8 : Int32) &&& 31)).toInt8.toInt32) (((q3 >>> ((16 : Int32) &&& 0x3f).toInt64).toInt32).toInt8.toInt32) (((q3 >>> ((24 : Int32) &&& 0x3f).toInt64).toInt32).toInt8.toInt32) (((q3 >>> ((32 : Int32) &&& 0x3f).toInt64).toInt32).toInt8.toInt32) (((q3 >>> ((40 : Int32) &&& 0x3f).toInt64).toInt32).toInt8.toInt32) (((q3 >>> ((48 : Int32) &&& 0x3f).toInt64).toInt32).toInt8.toInt32) (((q3 >>> ((56 : Int32) &&& 0x3f).toInt64).toInt32).toInt8.toInt32) (T40.heap) n0 Z41 V_40 rfl) hZ (own_w hw 8 rfl) (own_w hw 7 rfl) (by decide) (by decide)) (g := (mkF m 214 #[vi p1, vi p2, vj q3, .second, vi (0 : Int32), vi (p2.toInt16.toInt32), vr b2, vi (((p2.toInt16.toInt32).toInt8.toInt32) &&& (255 : Int32)), vi (((p2.toInt16.toInt32) >>> ((8 : Int32) &&& 31)).toInt8.toInt32), vi (1 : Int32), .unset] [(.long q3), (.int (0 : Int32)), (.int (5 : Int32)), (.ref b2)])) rfl (by rw [hml]; rfl) (argsL := [(.ref b2), (.int (5 : Int32)), (.int (0 : Int32)), (.long q3)]) (rest := []) (lenOf pd0_1 rfl) rfl (by show 2 * 0 + _ ≤ _; exact Nat.le_of_eq rfl) (hb hby at_214) (fun _ _ => ⟨rfl, eh62, (by decide : 1 + 0 ≤ _), (by decide : 8 + 0 ≤ _)⟩)
    dsimp only [Pt.U, Pt.locs, Pt.cells, Pt.slots] at X65 l65 y65 z65 st65 hQ65
    subst l65 y65 z65
    obtain ⟨rfl, Nq65, eh65⟩ := hQ65
    have N65 := Fr.app N62 Nq65
    have go66 : Go p e below s₁ F0 T65 (mkF m 217 #[vi p1, vi p2, vj q3, .second, vi (0 : Int32), vi (p2.toInt16.toInt32), vr b2, vi (((p2.toInt16.toInt32).toInt8.toInt32) &&& (255 : Int32)), vi (((p2.toInt16.toInt32) >>> ((8 : Int32) &&& 31)).toInt8.toInt32), vi (1 : Int32), .unset] [(.int (1 : Int32))]) := fun t k => go64 t (st65 t k)
    have go67 : Go p e below s₁ F0 T65 (mkF m 227 #[vi p1, vi p2, vj q3, .second, vi (0 : Int32), vi (p2.toInt16.toInt32), vr b2, vi (((p2.toInt16.toInt32).toInt8.toInt32) &&& (255 : Int32)), vi (((p2.toInt16.toInt32) >>> ((8 : Int32) &&& 31)).toInt8.toInt32), vi (1 : Int32), .unset] [(.long q3), (.int (0 : Int32)), (.int (6 : Int32)), (.ref b2)]) := by
      intro t kt
      refine go66 t ?_
      refine o_ifNo X65 hx (hb hby at_217) ((if0 _ _).trans (feq (by decide : ¬ ((1 : Int32) = (0 : Int32)))).1) ?_
      refine o_aload X65 hx (hb hby at_220) rfl rfl ?_
      refine o_bipush X65 hx (hb hby at_222) (v := 6) rfl ?_
      refine o_iload X65 hx (hb hby at_224) rfl ?_
      refine o_lloadN X65 hx (hb hby at_226) rfl ?_
      exact kt
    obtain ⟨_, _, ⟨T68, L68, k68, n68⟩, -, X68, ⟨Lc68, hQ68, l68, y68, z68⟩, st68⟩ := Jvm.LawKit.callS X65 hx (y := y_1) hown (mvT hZ (own_w hw 5 rfl)) (mvT hZ (own_w hw 6 rfl)) (mvT hZ (own_w hw 7 rfl)) (mvT hZ (own_w hw 8 rfl)) (by decide) (backOf (W := 0) (rm2_0_6 l Z a0 hw [] b2 q3 k2 ((p2.toInt16.toInt32).toInt8.toInt32) (((p2.toInt16.toInt32) >>> ((8 : Int32) &&& 31)).toInt8.toInt32) (((q3 >>> ((16 : Int32) &&& 0x3f).toInt64).toInt32).toInt8.toInt32) (((q3 >>> ((24 : Int32) &&& 0x3f).toInt64).toInt32).toInt8.toInt32) (((q3 >>> ((32 : Int32) &&& 0x3f).toInt64).toInt32).toInt8.toInt32) (((q3 >>> ((40 : Int32) &&& 0x3f).toInt64).toInt32).toInt8.toInt32) (((q3 >>> ((48 : Int32) &&& 0x3f).toInt64).toInt32).toInt8.toInt32) (((q3 >>> ((56 : Int32) &&& 0x3f).toInt64).toInt32).toInt8.toInt32) (T40.heap) n0 Z41 V_40 rfl) hZ (own_w hw 8 rfl) (own_w hw 7 rfl) (by decide) (by decide)) (g := (mkF m 227 #[vi p1, vi p2, vj q3, .second, vi (0 : Int32), vi (p2.toInt16.toInt32), vr b2, vi (((p2.toInt16.toInt32).toInt8.toInt32) &&& (255 : Int32)), vi (((p2.toInt16.toInt32) >>> ((8 : Int32) &&& 31)).toInt8.toInt32), vi (1 : Int32), .unset] [(.long q3), (.int (0 : Int32)), (.int (6 : Int32)), (.ref b2)])) rfl (by rw [hml]; rfl) (argsL := [(.ref b2), (.int (6 : Int32)), (.int (0 : Int32)), (.long q3)]) (rest := []) (lenOf pd0_1 rfl) rfl (by show 2 * 0 + _ ≤ _; exact Nat.le_of_eq rfl) (hb hby at_227) (fun _ _ => ⟨rfl, eh65, (by decide : 1 + 0 ≤ _), (by decide : 8 + 0 ≤ _)⟩)
    dsimp only [Pt.U, Pt.locs, Pt.cells, Pt.slots] at X68 l68 y68 z68 st68 hQ68
    subst l68 y68 z68
    obtain ⟨rfl, Nq68, eh68⟩ := hQ68
    have N68 := Fr.app N65 Nq68
    have go69 : Go p e below s₁ F0 T68 (mkF m 230 #[vi p1, vi p2, vj q3, .second, vi (0 : Int32), vi (p2.toInt16.toInt32), vr b2, vi (((p2.toInt16.toInt32).toInt8.toInt32) &&& (255 : Int32)), vi (((p2.toInt16.toInt32) >>> ((8 : Int32) &&& 31)).toInt8.toInt32), vi (1 : Int32), .unset] [(.int (1 : Int32))]) := fun t k => go67 t (st68 t k)
    have go70 : Go p e below s₁ F0 T68 (mkF m 240 #[vi p1, vi p2, vj q3, .second, vi (0 : Int32), vi (p2.toInt16.toInt32), vr b2, vi (((p2.toInt16.toInt32).toInt8.toInt32) &&& (255 : Int32)), vi (((p2.toInt16.toInt32) >>> ((8 : Int32) &&& 31)).toInt8.toInt32), vi (1 : Int32), .unset] [(.long q3), (.int (0 : Int32)), (.int (7 : Int32)), (.ref b2)]) := by
      intro t kt
      refine go69 t ?_
      refine o_ifNo X68 hx (hb hby at_230) ((if0 _ _).trans (feq (by decide : ¬ ((1 : Int32) = (0 : Int32)))).1) ?_
      refine o_aload X68 hx (hb hby at_233) rfl rfl ?_
      refine o_bipush X68 hx (hb hby at_235) (v := 7) rfl ?_
      refine o_iload X68 hx (hb hby at_237) rfl ?_
      refine o_lloadN X68 hx (hb hby at_239) rfl ?_
      exact kt
    obtain ⟨_, _, ⟨T71, L71, k71, n71⟩, -, X71, ⟨Lc71, hQ71, l71, y71, z71⟩, st71⟩ := Jvm.LawKit.callS X68 hx (y := y_1) hown (mvT hZ (own_w hw 5 rfl)) (mvT hZ (own_w hw 6 rfl)) (mvT hZ (own_w hw 7 rfl)) (mvT hZ (own_w hw 8 rfl)) (by decide) (backOf (W := 0) (rm2_0_7 l Z a0 hw [] b2 q3 k2 ((p2.toInt16.toInt32).toInt8.toInt32) (((p2.toInt16.toInt32) >>> ((8 : Int32) &&& 31)).toInt8.toInt32) (((q3 >>> ((16 : Int32) &&& 0x3f).toInt64).toInt32).toInt8.toInt32) (((q3 >>> ((24 : Int32) &&& 0x3f).toInt64).toInt32).toInt8.toInt32) (((q3 >>> ((32 : Int32) &&& 0x3f).toInt64).toInt32).toInt8.toInt32) (((q3 >>> ((40 : Int32) &&& 0x3f).toInt64).toInt32).toInt8.toInt32) (((q3 >>> ((48 : Int32) &&& 0x3f).toInt64).toInt32).toInt8.toInt32) (((q3 >>> ((56 : Int32) &&& 0x3f).toInt64).toInt32).toInt8.toInt32) (T40.heap) n0 Z41 V_40 rfl) hZ (own_w hw 8 rfl) (own_w hw 7 rfl) (by decide) (by decide)) (g := (mkF m 240 #[vi p1, vi p2, vj q3, .second, vi (0 : Int32), vi (p2.toInt16.toInt32), vr b2, vi (((p2.toInt16.toInt32).toInt8.toInt32) &&& (255 : Int32)), vi (((p2.toInt16.toInt32) >>> ((8 : Int32) &&& 31)).toInt8.toInt32), vi (1 : Int32), .unset] [(.long q3), (.int (0 : Int32)), (.int (7 : Int32)), (.ref b2)])) rfl (by rw [hml]; rfl) (argsL := [(.ref b2), (.int (7 : Int32)), (.int (0 : Int32)), (.long q3)]) (rest := []) (lenOf pd0_1 rfl) rfl (by show 2 * 0 + _ ≤ _; exact Nat.le_of_eq rfl) (hb hby at_240) (fun _ _ => ⟨rfl, eh68, (by decide : 1 + 0 ≤ _), (by decide : 8 + 0 ≤ _)⟩)
    dsimp only [Pt.U, Pt.locs, Pt.cells, Pt.slots] at X71 l71 y71 z71 st71 hQ71
    subst l71 y71 z71
    obtain ⟨rfl, Nq71, eh71⟩ := hQ71
    have N71 := Fr.app N68 Nq71
    have go72 : Go p e below s₁ F0 T71 (mkF m 243 #[vi p1, vi p2, vj q3, .second, vi (0 : Int32), vi (p2.toInt16.toInt32), vr b2, vi (((p2.toInt16.toInt32).toInt8.toInt32) &&& (255 : Int32)), vi (((p2.toInt16.toInt32) >>> ((8 : Int32) &&& 31)).toInt8.toInt32), vi (1 : Int32), .unset] [(.int (1 : Int32))]) := fun t k => go70 t (st71 t k)
    have go73 : Go p e below s₁ F0 T71 (mkF m 268 #[vi p1, vi p2, vj q3, .second, vi (0 : Int32), vi (p2.toInt16.toInt32), vr b2, vi (((p2.toInt16.toInt32).toInt8.toInt32) &&& (255 : Int32)), vi (((p2.toInt16.toInt32) >>> ((8 : Int32) &&& 31)).toInt8.toInt32), vi (1 : Int32), vi (1 : Int32)] [(.int (1 : Int32))]) := by
      intro t kt
      refine go72 t ?_
      refine o_ifNo X71 hx (hb hby at_243) ((if0 _ _).trans (feq (by decide : ¬ ((1 : Int32) = (0 : Int32)))).1) ?_
      refine o_iconst X71 hx (hb hby at_246) (v := 1) rfl ?_
      refine o_goto X71 hx (hb hby at_247) (pc' := 251) rfl (by decide) ?_
      refine o_istore X71 hx (hb hby at_251) (L' := #[vi p1, vi p2, vj q3, .second, vi (0 : Int32), vi (p2.toInt16.toInt32), vr b2, vi (((p2.toInt16.toInt32).toInt8.toInt32) &&& (255 : Int32)), vi (((p2.toInt16.toInt32) >>> ((8 : Int32) &&& 31)).toInt8.toInt32), vi (1 : Int32), vi (1 : Int32)]) rfl ?_
      refine o_iload X71 hx (hb hby at_253) rfl ?_
      refine o_ifNo X71 hx (hb hby at_255) ((if0 _ _).trans (feq (by decide : ¬ ((1 : Int32) = (0 : Int32)))).1) ?_
      refine o_iload X71 hx (hb hby at_258) rfl ?_
      refine o_ifNo X71 hx (hb hby at_260) ((if0 _ _).trans (feq (by decide : ¬ ((1 : Int32) = (0 : Int32)))).1) ?_
      refine o_iconst X71 hx (hb hby at_263) (v := 1) rfl ?_
      refine o_goto X71 hx (hb hby at_264) (pc' := 268) rfl (by decide) ?_
      exact kt
    obtain ⟨fs, hr, hrun, hended, hW, hsame⟩ := X71.leave (v := some (.int (1 : Int32))) (fun h => by rw [Bd.returns] at h; cases h)
    refine ⟨_, _, pre0 _ (go73 _ ?_), hrun, hended, _, _, rfl, ?_, ⟨_, rfl⟩, hW, hsame.mono (by decide) (by decide)⟩
    · skip
      exact retN X71 hx (t := .boolean) Bd.returns (by simp) (hb hby at_268) hr
    · show Q0 Z p1 p2 q3 h0 n0 _ T71.heap _
      rw [eh71]
      exact ⟨rfl, N71⟩
  · skip
    have go74 : Go p e below s₁ F0 T34 (mkF m 94 #[vi p1, vi p2, vj q3, .second, vi (1 : Int32), vi (p2.toInt16.toInt32), vr b2, .unset, .unset, .unset, .unset] []) := by rw [hcs37] at go36; exact go36
    have go75 : Go p e below s₁ F0 T34 (mkF m 100 #[vi p1, vi p2, vj q3, .second, vi (1 : Int32), vi (p2.toInt16.toInt32), vr b2, .unset, .unset, .unset, .unset] [(.int (p2.toInt16.toInt32)), (.int (1 : Int32)), (.ref b2)]) := by
      intro t kt
      refine go74 t ?_
      refine o_aload X34 hx (hb hby at_94) rfl rfl ?_
      refine o_iload X34 hx (hb hby at_96) rfl ?_
      refine o_iload X34 hx (hb hby at_98) rfl ?_
      exact kt
    obtain ⟨_, _, ⟨T76, L76, k76, n76⟩, -, X76, ⟨Lc76, hQ76, l76, y76, z76⟩, st76⟩ := Jvm.LawKit.callS X34 hx (y := y_0) hown (mvT hZ (own_w hw 1 rfl)) (mvT hZ (own_w hw 2 rfl)) (mvT hZ (own_w hw 3 rfl)) (mvT hZ (own_w hw 4 rfl)) (by decide) (backOf (W := 0) (rm1_1 l Z a0 hw [] b2 (p2.toInt16.toInt32) k2 ((q3.toInt32).toInt8.toInt32) (((q3 >>> ((8 : Int32) &&& 0x3f).toInt64).toInt32).toInt8.toInt32) (((q3 >>> ((16 : Int32) &&& 0x3f).toInt64).toInt32).toInt8.toInt32) (((q3 >>> ((24 : Int32) &&& 0x3f).toInt64).toInt32).toInt8.toInt32) (((q3 >>> ((32 : Int32) &&& 0x3f).toInt64).toInt32).toInt8.toInt32) (((q3 >>> ((40 : Int32) &&& 0x3f).toInt64).toInt32).toInt8.toInt32) (((q3 >>> ((48 : Int32) &&& 0x3f).toInt64).toInt32).toInt8.toInt32) (((q3 >>> ((56 : Int32) &&& 0x3f).toInt64).toInt32).toInt8.toInt32) h34 n0 Z35 V34 g_b2) hZ (own_w hw 4 rfl) (own_w hw 3 rfl) (by decide) (by decide)) (g := (mkF m 100 #[vi p1, vi p2, vj q3, .second, vi (1 : Int32), vi (p2.toInt16.toInt32), vr b2, .unset, .unset, .unset, .unset] [(.int (p2.toInt16.toInt32)), (.int (1 : Int32)), (.ref b2)])) rfl (by rw [hml]; rfl) (argsL := [(.ref b2), (.int (1 : Int32)), (.int (p2.toInt16.toInt32))]) (rest := []) (lenOf pd0_0 rfl) rfl (by show 2 * 0 + _ ≤ _; exact Nat.le_of_eq rfl) (hb hby at_100) (fun _ _ => ⟨rfl, e34, (by decide : 1 + 0 ≤ _), (by decide : 8 + 0 ≤ _)⟩)
    dsimp only [Pt.U, Pt.locs, Pt.cells, Pt.slots] at X76 l76 y76 z76 st76 hQ76
    subst l76 y76 z76
    obtain ⟨rfl, Nq76, Kc76, V_76⟩ := hQ76
    have N76 := Fr.app N34 Nq76
    have Z77 : n0 ≤ T76.heap.size := Nat.le_trans Z35 Kc76.1
    have go78 : Go p e below s₁ F0 T76 (mkF m 103 #[vi p1, vi p2, vj q3, .second, vi (1 : Int32), vi (p2.toInt16.toInt32), vr b2, .unset, .unset, .unset, .unset] []) := fun t k => go75 t (st76 t k)
    have go79 : Go p e below s₁ F0 T76 (mkF m 109 #[vi p1, vi p2, vj q3, .second, vi (1 : Int32), vi (p2.toInt16.toInt32), vr b2, .unset, .unset, .unset, .unset] [(.int (2 : Int32)), (.ref b2)]) := by
      intro t kt
      refine go78 t ?_
      refine o_aload X76 hx (hb hby at_103) rfl rfl ?_
      refine o_iconst X76 hx (hb hby at_105) (v := 2) rfl ?_
      refine o_iload X76 hx (hb hby at_106) rfl ?_
      refine o_imulE X76 hx (hb hby at_108) (v := 2) rfl ?_
      exact kt
    obtain ⟨cl80, Ar80, -, Sz80, Nn80, Hs80, -⟩ := id V_76
    have hin80 : ¬ ((2 : Int32) < 0 ∨ cl80.slots.size ≤ ((2 : Int32)).toNatClampNeg) := inb_of Sz80 ⟨by decide, by decide⟩
    have hat80 : cl80.slots[((2 : Int32)).toNatClampNeg]? = some (.int ((p2.toInt16.toInt32).toInt8.toInt32)) := Hs80.at hin80 rfl
    have go81 : Go p e below s₁ F0 T76 (mkF m 124 #[vi p1, vi p2, vj q3, .second, vi (1 : Int32), vi (p2.toInt16.toInt32), vr b2, vi (((p2.toInt16.toInt32).toInt8.toInt32) &&& (255 : Int32)), .unset, .unset, .unset] [(.int (3 : Int32)), (.ref b2)]) := by
      intro t kt
      refine go79 t ?_
      refine o_baload X76 hx hZ rfl Ar80 hin80 hat80 (hb hby at_109) ?_
      refine o_sipush X76 hx (hb hby at_110) (v := 255) rfl ?_
      refine o_iand X76 hx (hb hby at_113) ?_
      refine o_istore X76 hx (hb hby at_114) (L' := #[vi p1, vi p2, vj q3, .second, vi (1 : Int32), vi (p2.toInt16.toInt32), vr b2, vi (((p2.toInt16.toInt32).toInt8.toInt32) &&& (255 : Int32)), .unset, .unset, .unset]) rfl ?_
      refine o_aload X76 hx (hb hby at_116) rfl rfl ?_
      refine o_iconst X76 hx (hb hby at_118) (v := 2) rfl ?_
      refine o_iload X76 hx (hb hby at_119) rfl ?_
      refine o_imulE X76 hx (hb hby at_121) (v := 2) rfl ?_
      refine o_iconst X76 hx (hb hby at_122) (v := 1) rfl ?_
      refine o_iaddE X76 hx (hb hby at_123) (v := 3) rfl ?_
      exact kt
    obtain ⟨cl82, Ar82, -, Sz82, Nn82, Hs82, -⟩ := id V_76
    have hin82 : ¬ ((3 : Int32) < 0 ∨ cl82.slots.size ≤ ((3 : Int32)).toNatClampNeg) := inb_of Sz82 ⟨by decide, by decide⟩
    have hat82 : cl82.slots[((3 : Int32)).toNatClampNeg]? = some (.int (((p2.toInt16.toInt32) >>> ((8 : Int32) &&& 31)).toInt8.toInt32)) := Hs82.at hin82 rfl
    have go84 : Go p e below s₁ F0 T76 (mkF m 138 #[vi p1, vi p2, vj q3, .second, vi (1 : Int32), vi (p2.toInt16.toInt32), vr b2, vi (((p2.toInt16.toInt32).toInt8.toInt32) &&& (255 : Int32)), vi (((p2.toInt16.toInt32) >>> ((8 : Int32) &&& 31)).toInt8.toInt32), .unset, .unset] [(.int (p2.toInt16.toInt32)), (.int (((((p2.toInt16.toInt32) >>> ((8 : Int32) &&& 31)).toInt8.toInt32) * (256 : Int32)) + (((p2.toInt16.toInt32).toInt8.toInt32) &&& (255 : Int32))))]) := by
      intro t kt
      refine go81 t ?_
      refine o_baload X76 hx hZ rfl Ar82 hin82 hat82 (hb hby at_124) ?_
      refine o_istore X76 hx (hb hby at_125) (L' := #[vi p1, vi p2, vj q3, .second, vi (1 : Int32), vi (p2.toInt16.toInt32), vr b2, vi (((p2.toInt16.toInt32).toInt8.toInt32) &&& (255 : Int32)), vi (((p2.toInt16.toInt32) >>> ((8 : Int32) &&& 31)).toInt8.toInt32), .unset, .unset]) rfl ?_
      refine o_iload X76 hx (hb hby at_127) rfl ?_
      refine o_sipush X76 hx (hb hby at_129) (v := 256) rfl ?_
      refine o_imul X76 hx (hb hby at_132) ?_
      refine o_iload X76 hx (hb hby at_133) rfl ?_
      refine o_iadd X76 hx (hb hby at_135) ?_
      refine o_iload X76 hx (hb hby at_136) rfl ?_
      exact kt
    have hd83 : (((((p2.toInt16.toInt32) >>> ((8 : Int32) &&& 31)).toInt8.toInt32) * (256 : Int32)) + (((p2.toInt16.toInt32).toInt8.toInt32) &&& (255 : Int32))) = (p2.toInt16.toInt32) := own_law _
    have go85 : Go p e below s₁ F0 T76 (mkF m 154 #[vi p1, vi p2, vj q3, .second, vi (1 : Int32), vi (p2.toInt16.toInt32), vr b2, vi (((p2.toInt16.toInt32).toInt8.toInt32) &&& (255 : Int32)), vi (((p2.toInt16.toInt32) >>> ((8 : Int32) &&& 31)).toInt8.toInt32), vi (1 : Int32), .unset] [(.long q3), (.int (1 : Int32)), (.int (0 : Int32)), (.ref b2)]) := by
      intro t kt
      refine go84 t ?_
      refine o_icmpNo X76 hx (hb hby at_138) (teq hd83).2 ?_
      refine o_iconst X76 hx (hb hby at_141) (v := 1) rfl ?_
      refine o_goto X76 hx (hb hby at_142) (pc' := 146) rfl (by decide) ?_
      refine o_istore X76 hx (hb hby at_146) (L' := #[vi p1, vi p2, vj q3, .second, vi (1 : Int32), vi (p2.toInt16.toInt32), vr b2, vi (((p2.toInt16.toInt32).toInt8.toInt32) &&& (255 : Int32)), vi (((p2.toInt16.toInt32) >>> ((8 : Int32) &&& 31)).toInt8.toInt32), vi (1 : Int32), .unset]) rfl ?_
      refine o_aload X76 hx (hb hby at_148) rfl rfl ?_
      refine o_iconst X76 hx (hb hby at_150) (v := 0) rfl ?_
      refine o_iload X76 hx (hb hby at_151) rfl ?_
      refine o_lloadN X76 hx (hb hby at_153) rfl ?_
      exact kt
    obtain ⟨_, _, ⟨T86, L86, k86, n86⟩, -, X86, ⟨Lc86, hQ86, l86, y86, z86⟩, st86⟩ := Jvm.LawKit.callS X76 hx (y := y_1) hown (mvT hZ (own_w hw 5 rfl)) (mvT hZ (own_w hw 6 rfl)) (mvT hZ (own_w hw 7 rfl)) (mvT hZ (own_w hw 8 rfl)) (by decide) (backOf (W := 0) (rm2_1_0 l Z a0 hw [] b2 q3 k2 ((q3.toInt32).toInt8.toInt32) (((q3 >>> ((8 : Int32) &&& 0x3f).toInt64).toInt32).toInt8.toInt32) ((p2.toInt16.toInt32).toInt8.toInt32) (((p2.toInt16.toInt32) >>> ((8 : Int32) &&& 31)).toInt8.toInt32) (((q3 >>> ((32 : Int32) &&& 0x3f).toInt64).toInt32).toInt8.toInt32) (((q3 >>> ((40 : Int32) &&& 0x3f).toInt64).toInt32).toInt8.toInt32) (((q3 >>> ((48 : Int32) &&& 0x3f).toInt64).toInt32).toInt8.toInt32) (((q3 >>> ((56 : Int32) &&& 0x3f).toInt64).toInt32).toInt8.toInt32) (T76.heap) n0 Z77 V_76 (own_sh0 _)) hZ (own_w hw 8 rfl) (own_w hw 7 rfl) (by decide) (by decide)) (g := (mkF m 154 #[vi p1, vi p2, vj q3, .second, vi (1 : Int32), vi (p2.toInt16.toInt32), vr b2, vi (((p2.toInt16.toInt32).toInt8.toInt32) &&& (255 : Int32)), vi (((p2.toInt16.toInt32) >>> ((8 : Int32) &&& 31)).toInt8.toInt32), vi (1 : Int32), .unset] [(.long q3), (.int (1 : Int32)), (.int (0 : Int32)), (.ref b2)])) rfl (by rw [hml]; rfl) (argsL := [(.ref b2), (.int (0 : Int32)), (.int (1 : Int32)), (.long q3)]) (rest := []) (lenOf pd0_1 rfl) rfl (by show 2 * 0 + _ ≤ _; exact Nat.le_of_eq rfl) (hb hby at_154) (fun _ _ => ⟨rfl, rfl, (by decide : 1 + 0 ≤ _), (by decide : 8 + 0 ≤ _)⟩)
    dsimp only [Pt.U, Pt.locs, Pt.cells, Pt.slots] at X86 l86 y86 z86 st86 hQ86
    subst l86 y86 z86
    obtain ⟨rfl, Nq86, eh86⟩ := hQ86
    have N86 := Fr.app N76 Nq86
    have go87 : Go p e below s₁ F0 T86 (mkF m 157 #[vi p1, vi p2, vj q3, .second, vi (1 : Int32), vi (p2.toInt16.toInt32), vr b2, vi (((p2.toInt16.toInt32).toInt8.toInt32) &&& (255 : Int32)), vi (((p2.toInt16.toInt32) >>> ((8 : Int32) &&& 31)).toInt8.toInt32), vi (1 : Int32), .unset] [(.int (1 : Int32))]) := fun t k => go85 t (st86 t k)
    have go88 : Go p e below s₁ F0 T86 (mkF m 166 #[vi p1, vi p2, vj q3, .second, vi (1 : Int32), vi (p2.toInt16.toInt32), vr b2, vi (((p2.toInt16.toInt32).toInt8.toInt32) &&& (255 : Int32)), vi (((p2.toInt16.toInt32) >>> ((8 : Int32) &&& 31)).toInt8.toInt32), vi (1 : Int32), .unset] [(.long q3), (.int (1 : Int32)), (.int (1 : Int32)), (.ref b2)]) := by
      intro t kt
      refine go87 t ?_
      refine o_ifNo X86 hx (hb hby at_157) ((if0 _ _).trans (feq (by decide : ¬ ((1 : Int32) = (0 : Int32)))).1) ?_
      refine o_aload X86 hx (hb hby at_160) rfl rfl ?_
      refine o_iconst X86 hx (hb hby at_162) (v := 1) rfl ?_
      refine o_iload X86 hx (hb hby at_163) rfl ?_
      refine o_lloadN X86 hx (hb hby at_165) rfl ?_
      exact kt
    obtain ⟨_, _, ⟨T89, L89, k89, n89⟩, -, X89, ⟨Lc89, hQ89, l89, y89, z89⟩, st89⟩ := Jvm.LawKit.callS X86 hx (y := y_1) hown (mvT hZ (own_w hw 5 rfl)) (mvT hZ (own_w hw 6 rfl)) (mvT hZ (own_w hw 7 rfl)) (mvT hZ (own_w hw 8 rfl)) (by decide) (backOf (W := 0) (rm2_1_1 l Z a0 hw [] b2 q3 k2 ((q3.toInt32).toInt8.toInt32) (((q3 >>> ((8 : Int32) &&& 0x3f).toInt64).toInt32).toInt8.toInt32) ((p2.toInt16.toInt32).toInt8.toInt32) (((p2.toInt16.toInt32) >>> ((8 : Int32) &&& 31)).toInt8.toInt32) (((q3 >>> ((32 : Int32) &&& 0x3f).toInt64).toInt32).toInt8.toInt32) (((q3 >>> ((40 : Int32) &&& 0x3f).toInt64).toInt32).toInt8.toInt32) (((q3 >>> ((48 : Int32) &&& 0x3f).toInt64).toInt32).toInt8.toInt32) (((q3 >>> ((56 : Int32) &&& 0x3f).toInt64).toInt32).toInt8.toInt32) (T76.heap) n0 Z77 V_76 rfl) hZ (own_w hw 8 rfl) (own_w hw 7 rfl) (by decide) (by decide)) (g := (mkF m 166 #[vi p1, vi p2, vj q3, .second, vi (1 : Int32), vi (p2.toInt16.toInt32), vr b2, vi (((p2.toInt16.toInt32).toInt8.toInt32) &&& (255 : Int32)), vi (((p2.toInt16.toInt32) >>> ((8 : Int32) &&& 31)).toInt8.toInt32), vi (1 : Int32), .unset] [(.long q3), (.int (1 : Int32)), (.int (1 : Int32)), (.ref b2)])) rfl (by rw [hml]; rfl) (argsL := [(.ref b2), (.int (1 : Int32)), (.int (1 : Int32)), (.long q3)]) (rest := []) (lenOf pd0_1 rfl) rfl (by show 2 * 0 + _ ≤ _; exact Nat.le_of_eq rfl) (hb hby at_166) (fun _ _ => ⟨rfl, eh86, (by decide : 1 + 0 ≤ _), (by decide : 8 + 0 ≤ _)⟩)
    dsimp only [Pt.U, Pt.locs, Pt.cells, Pt.slots] at X89 l89 y89 z89 st89 hQ89
    subst l89 y89 z89
    obtain ⟨rfl, Nq89, eh89⟩ := hQ89
    have N89 := Fr.app N86 Nq89
    have go90 : Go p e below s₁ F0 T89 (mkF m 169 #[vi p1, vi p2, vj q3, .second, vi (1 : Int32), vi (p2.toInt16.toInt32), vr b2, vi (((p2.toInt16.toInt32).toInt8.toInt32) &&& (255 : Int32)), vi (((p2.toInt16.toInt32) >>> ((8 : Int32) &&& 31)).toInt8.toInt32), vi (1 : Int32), .unset] [(.int (1 : Int32))]) := fun t k => go88 t (st89 t k)
    have go91 : Go p e below s₁ F0 T89 (mkF m 178 #[vi p1, vi p2, vj q3, .second, vi (1 : Int32), vi (p2.toInt16.toInt32), vr b2, vi (((p2.toInt16.toInt32).toInt8.toInt32) &&& (255 : Int32)), vi (((p2.toInt16.toInt32) >>> ((8 : Int32) &&& 31)).toInt8.toInt32), vi (1 : Int32), .unset] [(.long q3), (.int (1 : Int32)), (.int (2 : Int32)), (.ref b2)]) := by
      intro t kt
      refine go90 t ?_
      refine o_ifNo X89 hx (hb hby at_169) ((if0 _ _).trans (feq (by decide : ¬ ((1 : Int32) = (0 : Int32)))).1) ?_
      refine o_aload X89 hx (hb hby at_172) rfl rfl ?_
      refine o_iconst X89 hx (hb hby at_174) (v := 2) rfl ?_
      refine o_iload X89 hx (hb hby at_175) rfl ?_
      refine o_lloadN X89 hx (hb hby at_177) rfl ?_
      exact kt
    obtain ⟨_, _, ⟨T92, L92, k92, n92⟩, -, X92, ⟨Lc92, hQ92, l92, y92, z92⟩, st92⟩ := Jvm.LawKit.callS X89 hx (y := y_1) hown (mvT hZ (own_w hw 5 rfl)) (mvT hZ (own_w hw 6 rfl)) (mvT hZ (own_w hw 7 rfl)) (mvT hZ (own_w hw 8 rfl)) (by decide) (backOf (W := 0) (rm2_1_2 l Z a0 hw [] b2 q3 k2 ((q3.toInt32).toInt8.toInt32) (((q3 >>> ((8 : Int32) &&& 0x3f).toInt64).toInt32).toInt8.toInt32) ((p2.toInt16.toInt32).toInt8.toInt32) (((p2.toInt16.toInt32) >>> ((8 : Int32) &&& 31)).toInt8.toInt32) (((q3 >>> ((32 : Int32) &&& 0x3f).toInt64).toInt32).toInt8.toInt32) (((q3 >>> ((40 : Int32) &&& 0x3f).toInt64).toInt32).toInt8.toInt32) (((q3 >>> ((48 : Int32) &&& 0x3f).toInt64).toInt32).toInt8.toInt32) (((q3 >>> ((56 : Int32) &&& 0x3f).toInt64).toInt32).toInt8.toInt32) (T76.heap) n0 Z77 V_76) hZ (own_w hw 8 rfl) (own_w hw 7 rfl) (by decide) (by decide)) (g := (mkF m 178 #[vi p1, vi p2, vj q3, .second, vi (1 : Int32), vi (p2.toInt16.toInt32), vr b2, vi (((p2.toInt16.toInt32).toInt8.toInt32) &&& (255 : Int32)), vi (((p2.toInt16.toInt32) >>> ((8 : Int32) &&& 31)).toInt8.toInt32), vi (1 : Int32), .unset] [(.long q3), (.int (1 : Int32)), (.int (2 : Int32)), (.ref b2)])) rfl (by rw [hml]; rfl) (argsL := [(.ref b2), (.int (2 : Int32)), (.int (1 : Int32)), (.long q3)]) (rest := []) (lenOf pd0_1 rfl) rfl (by show 2 * 0 + _ ≤ _; exact Nat.le_of_eq rfl) (hb hby at_178) (fun _ _ => ⟨rfl, eh89, (by decide : 1 + 0 ≤ _), (by decide : 8 + 0 ≤ _)⟩)
    dsimp only [Pt.U, Pt.locs, Pt.cells, Pt.slots] at X92 l92 y92 z92 st92 hQ92
    subst l92 y92 z92
    obtain ⟨rfl, Nq92, eh92⟩ := hQ92
    have N92 := Fr.app N89 Nq92
    have go93 : Go p e below s₁ F0 T92 (mkF m 181 #[vi p1, vi p2, vj q3, .second, vi (1 : Int32), vi (p2.toInt16.toInt32), vr b2, vi (((p2.toInt16.toInt32).toInt8.toInt32) &&& (255 : Int32)), vi (((p2.toInt16.toInt32) >>> ((8 : Int32) &&& 31)).toInt8.toInt32), vi (1 : Int32), .unset] [(.int (1 : Int32))]) := fun t k => go91 t (st92 t k)
    have go94 : Go p e below s₁ F0 T92 (mkF m 190 #[vi p1, vi p2, vj q3, .second, vi (1 : Int32), vi (p2.toInt16.toInt32), vr b2, vi (((p2.toInt16.toInt32).toInt8.toInt32) &&& (255 : Int32)), vi (((p2.toInt16.toInt32) >>> ((8 : Int32) &&& 31)).toInt8.toInt32), vi (1 : Int32), .unset] [(.long q3), (.int (1 : Int32)), (.int (3 : Int32)), (.ref b2)]) := by
      intro t kt
      refine go93 t ?_
      refine o_ifNo X92 hx (hb hby at_181) ((if0 _ _).trans (feq (by decide : ¬ ((1 : Int32) = (0 : Int32)))).1) ?_
      refine o_aload X92 hx (hb hby at_184) rfl rfl ?_
      refine o_iconst X92 hx (hb hby at_186) (v := 3) rfl ?_
      refine o_iload X92 hx (hb hby at_187) rfl ?_
      refine o_lloadN X92 hx (hb hby at_189) rfl ?_
      exact kt
    obtain ⟨_, _, ⟨T95, L95, k95, n95⟩, -, X95, ⟨Lc95, hQ95, l95, y95, z95⟩, st95⟩ := Jvm.LawKit.callS X92 hx (y := y_1) hown (mvT hZ (own_w hw 5 rfl)) (mvT hZ (own_w hw 6 rfl)) (mvT hZ (own_w hw 7 rfl)) (mvT hZ (own_w hw 8 rfl)) (by decide) (backOf (W := 0) (rm2_1_3 l Z a0 hw [] b2 q3 k2 ((q3.toInt32).toInt8.toInt32) (((q3 >>> ((8 : Int32) &&& 0x3f).toInt64).toInt32).toInt8.toInt32) ((p2.toInt16.toInt32).toInt8.toInt32) (((p2.toInt16.toInt32) >>> ((8 : Int32) &&& 31)).toInt8.toInt32) (((q3 >>> ((32 : Int32) &&& 0x3f).toInt64).toInt32).toInt8.toInt32) (((q3 >>> ((40 : Int32) &&& 0x3f).toInt64).toInt32).toInt8.toInt32) (((q3 >>> ((48 : Int32) &&& 0x3f).toInt64).toInt32).toInt8.toInt32) (((q3 >>> ((56 : Int32) &&& 0x3f).toInt64).toInt32).toInt8.toInt32) (T76.heap) n0 Z77 V_76) hZ (own_w hw 8 rfl) (own_w hw 7 rfl) (by decide) (by decide)) (g := (mkF m 190 #[vi p1, vi p2, vj q3, .second, vi (1 : Int32), vi (p2.toInt16.toInt32), vr b2, vi (((p2.toInt16.toInt32).toInt8.toInt32) &&& (255 : Int32)), vi (((p2.toInt16.toInt32) >>> ((8 : Int32) &&& 31)).toInt8.toInt32), vi (1 : Int32), .unset] [(.long q3), (.int (1 : Int32)), (.int (3 : Int32)), (.ref b2)])) rfl (by rw [hml]; rfl) (argsL := [(.ref b2), (.int (3 : Int32)), (.int (1 : Int32)), (.long q3)]) (rest := []) (lenOf pd0_1 rfl) rfl (by show 2 * 0 + _ ≤ _; exact Nat.le_of_eq rfl) (hb hby at_190) (fun _ _ => ⟨rfl, eh92, (by decide : 1 + 0 ≤ _), (by decide : 8 + 0 ≤ _)⟩)
    dsimp only [Pt.U, Pt.locs, Pt.cells, Pt.slots] at X95 l95 y95 z95 st95 hQ95
    subst l95 y95 z95
    obtain ⟨rfl, Nq95, eh95⟩ := hQ95
    have N95 := Fr.app N92 Nq95
    have go96 : Go p e below s₁ F0 T95 (mkF m 193 #[vi p1, vi p2, vj q3, .second, vi (1 : Int32), vi (p2.toInt16.toInt32), vr b2, vi (((p2.toInt16.toInt32).toInt8.toInt32) &&& (255 : Int32)), vi (((p2.toInt16.toInt32) >>> ((8 : Int32) &&& 31)).toInt8.toInt32), vi (1 : Int32), .unset] [(.int (1 : Int32))]) := fun t k => go94 t (st95 t k)
    have go97 : Go p e below s₁ F0 T95 (mkF m 202 #[vi p1, vi p2, vj q3, .second, vi (1 : Int32), vi (p2.toInt16.toInt32), vr b2, vi (((p2.toInt16.toInt32).toInt8.toInt32) &&& (255 : Int32)), vi (((p2.toInt16.toInt32) >>> ((8 : Int32) &&& 31)).toInt8.toInt32), vi (1 : Int32), .unset] [(.long q3), (.int (1 : Int32)), (.int (4 : Int32)), (.ref b2)]) := by
      intro t kt
      refine go96 t ?_
      refine o_ifNo X95 hx (hb hby at_193) ((if0 _ _).trans (feq (by decide : ¬ ((1 : Int32) = (0 : Int32)))).1) ?_
      refine o_aload X95 hx (hb hby at_196) rfl rfl ?_
      refine o_iconst X95 hx (hb hby at_198) (v := 4) rfl ?_
      refine o_iload X95 hx (hb hby at_199) rfl ?_
      refine o_lloadN X95 hx (hb hby at_201) rfl ?_
      exact kt
    obtain ⟨_, _, ⟨T98, L98, k98, n98⟩, -, X98, ⟨Lc98, hQ98, l98, y98, z98⟩, st98⟩ := Jvm.LawKit.callS X95 hx (y := y_1) hown (mvT hZ (own_w hw 5 rfl)) (mvT hZ (own_w hw 6 rfl)) (mvT hZ (own_w hw 7 rfl)) (mvT hZ (own_w hw 8 rfl)) (by decide) (backOf (W := 0) (rm2_1_4 l Z a0 hw [] b2 q3 k2 ((q3.toInt32).toInt8.toInt32) (((q3 >>> ((8 : Int32) &&& 0x3f).toInt64).toInt32).toInt8.toInt32) ((p2.toInt16.toInt32).toInt8.toInt32) (((p2.toInt16.toInt32) >>> ((8 : Int32) &&& 31)).toInt8.toInt32) (((q3 >>> ((32 : Int32) &&& 0x3f).toInt64).toInt32).toInt8.toInt32) (((q3 >>> ((40 : Int32) &&& 0x3f).toInt64).toInt32).toInt8.toInt32) (((q3 >>> ((48 : Int32) &&& 0x3f).toInt64).toInt32).toInt8.toInt32) (((q3 >>> ((56 : Int32) &&& 0x3f).toInt64).toInt32).toInt8.toInt32) (T76.heap) n0 Z77 V_76 rfl) hZ (own_w hw 8 rfl) (own_w hw 7 rfl) (by decide) (by decide)) (g := (mkF m 202 #[vi p1, vi p2, vj q3, .second, vi (1 : Int32), vi (p2.toInt16.toInt32), vr b2, vi (((p2.toInt16.toInt32).toInt8.toInt32) &&& (255 : Int32)), vi (((p2.toInt16.toInt32) >>> ((8 : Int32) &&& 31)).toInt8.toInt32), vi (1 : Int32), .unset] [(.long q3), (.int (1 : Int32)), (.int (4 : Int32)), (.ref b2)])) rfl (by rw [hml]; rfl) (argsL := [(.ref b2), (.int (4 : Int32)), (.int (1 : Int32)), (.long q3)]) (rest := []) (lenOf pd0_1 rfl) rfl (by show 2 * 0 + _ ≤ _; exact Nat.le_of_eq rfl) (hb hby at_202) (fun _ _ => ⟨rfl, eh95, (by decide : 1 + 0 ≤ _), (by decide : 8 + 0 ≤ _)⟩)
    dsimp only [Pt.U, Pt.locs, Pt.cells, Pt.slots] at X98 l98 y98 z98 st98 hQ98
    subst l98 y98 z98
    obtain ⟨rfl, Nq98, eh98⟩ := hQ98
    have N98 := Fr.app N95 Nq98
    have go99 : Go p e below s₁ F0 T98 (mkF m 205 #[vi p1, vi p2, vj q3, .second, vi (1 : Int32), vi (p2.toInt16.toInt32), vr b2, vi (((p2.toInt16.toInt32).toInt8.toInt32) &&& (255 : Int32)), vi (((p2.toInt16.toInt32) >>> ((8 : Int32) &&& 31)).toInt8.toInt32), vi (1 : Int32), .unset] [(.int (1 : Int32))]) := fun t k => go97 t (st98 t k)
    have go100 : Go p e below s₁ F0 T98 (mkF m 214 #[vi p1, vi p2, vj q3, .second, vi (1 : Int32), vi (p2.toInt16.toInt32), vr b2, vi (((p2.toInt16.toInt32).toInt8.toInt32) &&& (255 : Int32)), vi (((p2.toInt16.toInt32) >>> ((8 : Int32) &&& 31)).toInt8.toInt32), vi (1 : Int32), .unset] [(.long q3), (.int (1 : Int32)), (.int (5 : Int32)), (.ref b2)]) := by
      intro t kt
      refine go99 t ?_
      refine o_ifNo X98 hx (hb hby at_205) ((if0 _ _).trans (feq (by decide : ¬ ((1 : Int32) = (0 : Int32)))).1) ?_
      refine o_aload X98 hx (hb hby at_208) rfl rfl ?_
      refine o_iconst X98 hx (hb hby at_210) (v := 5) rfl ?_
      refine o_iload X98 hx (hb hby at_211) rfl ?_
      refine o_lloadN X98 hx (hb hby at_213) rfl ?_
      exact kt
    obtain ⟨_, _, ⟨T101, L101, k101, n101⟩, -, X101, ⟨Lc101, hQ101, l101, y101, z101⟩, st101⟩ := Jvm.LawKit.callS X98 hx (y := y_1) hown (mvT hZ (own_w hw 5 rfl)) (mvT hZ (own_w hw 6 rfl)) (mvT hZ (own_w hw 7 rfl)) (mvT hZ (own_w hw 8 rfl)) (by decide) (backOf (W := 0) (rm2_1_5 l Z a0 hw [] b2 q3 k2 ((q3.toInt32).toInt8.toInt32) (((q3 >>> ((8 : Int32) &&& 0x3f).toInt64).toInt32).toInt8.toInt32) ((p2.toInt16.toInt32).toInt8.toInt32) (((p2.toInt16.toInt32) >>> ((8 : Int32) &&& 31)).toInt8.toInt32) (((q3 >>> ((32 : Int32) &&& 0x3f).toInt64).toInt32).toInt8.toInt32) (((q3 >>> ((40 : Int32) &&& 0x3f).toInt64).toInt32).toInt8.toInt32) (((q3 >>> ((48 : Int32) &&& 0x3f).toInt64).toInt32).toInt8.toInt32) (((q3 >>> ((56 : Int32) &&& 0x3f).toInt64).toInt32).toInt8.toInt32) (T76.heap) n0 Z77 V_76 rfl) hZ (own_w hw 8 rfl) (own_w hw 7 rfl) (by decide) (by decide)) (g := (mkF m 214 #[vi p1, vi p2, vj q3, .second, vi (1 : Int32), vi (p2.toInt16.toInt32), vr b2, vi (((p2.toInt16.toInt32).toInt8.toInt32) &&& (255 : Int32)), vi (((p2.toInt16.toInt32) >>> ((8 : Int32) &&& 31)).toInt8.toInt32), vi (1 : Int32), .unset] [(.long q3), (.int (1 : Int32)), (.int (5 : Int32)), (.ref b2)])) rfl (by rw [hml]; rfl) (argsL := [(.ref b2), (.int (5 : Int32)), (.int (1 : Int32)), (.long q3)]) (rest := []) (lenOf pd0_1 rfl) rfl (by show 2 * 0 + _ ≤ _; exact Nat.le_of_eq rfl) (hb hby at_214) (fun _ _ => ⟨rfl, eh98, (by decide : 1 + 0 ≤ _), (by decide : 8 + 0 ≤ _)⟩)
    dsimp only [Pt.U, Pt.locs, Pt.cells, Pt.slots] at X101 l101 y101 z101 st101 hQ101
    subst l101 y101 z101
    obtain ⟨rfl, Nq101, eh101⟩ := hQ101
    have N101 := Fr.app N98 Nq101
    have go102 : Go p e below s₁ F0 T101 (mkF m 217 #[vi p1, vi p2, vj q3, .second, vi (1 : Int32), vi (p2.toInt16.toInt32), vr b2, vi (((p2.toInt16.toInt32).toInt8.toInt32) &&& (255 : Int32)), vi (((p2.toInt16.toInt32) >>> ((8 : Int32) &&& 31)).toInt8.toInt32), vi (1 : Int32), .unset] [(.int (1 : Int32))]) := fun t k => go100 t (st101 t k)
    have go103 : Go p e below s₁ F0 T101 (mkF m 227 #[vi p1, vi p2, vj q3, .second, vi (1 : Int32), vi (p2.toInt16.toInt32), vr b2, vi (((p2.toInt16.toInt32).toInt8.toInt32) &&& (255 : Int32)), vi (((p2.toInt16.toInt32) >>> ((8 : Int32) &&& 31)).toInt8.toInt32), vi (1 : Int32), .unset] [(.long q3), (.int (1 : Int32)), (.int (6 : Int32)), (.ref b2)]) := by
      intro t kt
      refine go102 t ?_
      refine o_ifNo X101 hx (hb hby at_217) ((if0 _ _).trans (feq (by decide : ¬ ((1 : Int32) = (0 : Int32)))).1) ?_
      refine o_aload X101 hx (hb hby at_220) rfl rfl ?_
      refine o_bipush X101 hx (hb hby at_222) (v := 6) rfl ?_
      refine o_iload X101 hx (hb hby at_224) rfl ?_
      refine o_lloadN X101 hx (hb hby at_226) rfl ?_
      exact kt
    obtain ⟨_, _, ⟨T104, L104, k104, n104⟩, -, X104, ⟨Lc104, hQ104, l104, y104, z104⟩, st104⟩ := Jvm.LawKit.callS X101 hx (y := y_1) hown (mvT hZ (own_w hw 5 rfl)) (mvT hZ (own_w hw 6 rfl)) (mvT hZ (own_w hw 7 rfl)) (mvT hZ (own_w hw 8 rfl)) (by decide) (backOf (W := 0) (rm2_1_6 l Z a0 hw [] b2 q3 k2 ((q3.toInt32).toInt8.toInt32) (((q3 >>> ((8 : Int32) &&& 0x3f).toInt64).toInt32).toInt8.toInt32) ((p2.toInt16.toInt32).toInt8.toInt32) (((p2.toInt16.toInt32) >>> ((8 : Int32) &&& 31)).toInt8.toInt32) (((q3 >>> ((32 : Int32) &&& 0x3f).toInt64).toInt32).toInt8.toInt32) (((q3 >>> ((40 : Int32) &&& 0x3f).toInt64).toInt32).toInt8.toInt32) (((q3 >>> ((48 : Int32) &&& 0x3f).toInt64).toInt32).toInt8.toInt32) (((q3 >>> ((56 : Int32) &&& 0x3f).toInt64).toInt32).toInt8.toInt32) (T76.heap) n0 Z77 V_76 rfl) hZ (own_w hw 8 rfl) (own_w hw 7 rfl) (by decide) (by decide)) (g := (mkF m 227 #[vi p1, vi p2, vj q3, .second, vi (1 : Int32), vi (p2.toInt16.toInt32), vr b2, vi (((p2.toInt16.toInt32).toInt8.toInt32) &&& (255 : Int32)), vi (((p2.toInt16.toInt32) >>> ((8 : Int32) &&& 31)).toInt8.toInt32), vi (1 : Int32), .unset] [(.long q3), (.int (1 : Int32)), (.int (6 : Int32)), (.ref b2)])) rfl (by rw [hml]; rfl) (argsL := [(.ref b2), (.int (6 : Int32)), (.int (1 : Int32)), (.long q3)]) (rest := []) (lenOf pd0_1 rfl) rfl (by show 2 * 0 + _ ≤ _; exact Nat.le_of_eq rfl) (hb hby at_227) (fun _ _ => ⟨rfl, eh101, (by decide : 1 + 0 ≤ _), (by decide : 8 + 0 ≤ _)⟩)
    dsimp only [Pt.U, Pt.locs, Pt.cells, Pt.slots] at X104 l104 y104 z104 st104 hQ104
    subst l104 y104 z104
    obtain ⟨rfl, Nq104, eh104⟩ := hQ104
    have N104 := Fr.app N101 Nq104
    have go105 : Go p e below s₁ F0 T104 (mkF m 230 #[vi p1, vi p2, vj q3, .second, vi (1 : Int32), vi (p2.toInt16.toInt32), vr b2, vi (((p2.toInt16.toInt32).toInt8.toInt32) &&& (255 : Int32)), vi (((p2.toInt16.toInt32) >>> ((8 : Int32) &&& 31)).toInt8.toInt32), vi (1 : Int32), .unset] [(.int (1 : Int32))]) := fun t k => go103 t (st104 t k)
    have go106 : Go p e below s₁ F0 T104 (mkF m 240 #[vi p1, vi p2, vj q3, .second, vi (1 : Int32), vi (p2.toInt16.toInt32), vr b2, vi (((p2.toInt16.toInt32).toInt8.toInt32) &&& (255 : Int32)), vi (((p2.toInt16.toInt32) >>> ((8 : Int32) &&& 31)).toInt8.toInt32), vi (1 : Int32), .unset] [(.long q3), (.int (1 : Int32)), (.int (7 : Int32)), (.ref b2)]) := by
      intro t kt
      refine go105 t ?_
      refine o_ifNo X104 hx (hb hby at_230) ((if0 _ _).trans (feq (by decide : ¬ ((1 : Int32) = (0 : Int32)))).1) ?_
      refine o_aload X104 hx (hb hby at_233) rfl rfl ?_
      refine o_bipush X104 hx (hb hby at_235) (v := 7) rfl ?_
      refine o_iload X104 hx (hb hby at_237) rfl ?_
      refine o_lloadN X104 hx (hb hby at_239) rfl ?_
      exact kt
    obtain ⟨_, _, ⟨T107, L107, k107, n107⟩, -, X107, ⟨Lc107, hQ107, l107, y107, z107⟩, st107⟩ := Jvm.LawKit.callS X104 hx (y := y_1) hown (mvT hZ (own_w hw 5 rfl)) (mvT hZ (own_w hw 6 rfl)) (mvT hZ (own_w hw 7 rfl)) (mvT hZ (own_w hw 8 rfl)) (by decide) (backOf (W := 0) (rm2_1_7 l Z a0 hw [] b2 q3 k2 ((q3.toInt32).toInt8.toInt32) (((q3 >>> ((8 : Int32) &&& 0x3f).toInt64).toInt32).toInt8.toInt32) ((p2.toInt16.toInt32).toInt8.toInt32) (((p2.toInt16.toInt32) >>> ((8 : Int32) &&& 31)).toInt8.toInt32) (((q3 >>> ((32 : Int32) &&& 0x3f).toInt64).toInt32).toInt8.toInt32) (((q3 >>> ((40 : Int32) &&& 0x3f).toInt64).toInt32).toInt8.toInt32) (((q3 >>> ((48 : Int32) &&& 0x3f).toInt64).toInt32).toInt8.toInt32) (((q3 >>> ((56 : Int32) &&& 0x3f).toInt64).toInt32).toInt8.toInt32) (T76.heap) n0 Z77 V_76 rfl) hZ (own_w hw 8 rfl) (own_w hw 7 rfl) (by decide) (by decide)) (g := (mkF m 240 #[vi p1, vi p2, vj q3, .second, vi (1 : Int32), vi (p2.toInt16.toInt32), vr b2, vi (((p2.toInt16.toInt32).toInt8.toInt32) &&& (255 : Int32)), vi (((p2.toInt16.toInt32) >>> ((8 : Int32) &&& 31)).toInt8.toInt32), vi (1 : Int32), .unset] [(.long q3), (.int (1 : Int32)), (.int (7 : Int32)), (.ref b2)])) rfl (by rw [hml]; rfl) (argsL := [(.ref b2), (.int (7 : Int32)), (.int (1 : Int32)), (.long q3)]) (rest := []) (lenOf pd0_1 rfl) rfl (by show 2 * 0 + _ ≤ _; exact Nat.le_of_eq rfl) (hb hby at_240) (fun _ _ => ⟨rfl, eh104, (by decide : 1 + 0 ≤ _), (by decide : 8 + 0 ≤ _)⟩)
    dsimp only [Pt.U, Pt.locs, Pt.cells, Pt.slots] at X107 l107 y107 z107 st107 hQ107
    subst l107 y107 z107
    obtain ⟨rfl, Nq107, eh107⟩ := hQ107
    have N107 := Fr.app N104 Nq107
    have go108 : Go p e below s₁ F0 T107 (mkF m 243 #[vi p1, vi p2, vj q3, .second, vi (1 : Int32), vi (p2.toInt16.toInt32), vr b2, vi (((p2.toInt16.toInt32).toInt8.toInt32) &&& (255 : Int32)), vi (((p2.toInt16.toInt32) >>> ((8 : Int32) &&& 31)).toInt8.toInt32), vi (1 : Int32), .unset] [(.int (1 : Int32))]) := fun t k => go106 t (st107 t k)
    have go109 : Go p e below s₁ F0 T107 (mkF m 268 #[vi p1, vi p2, vj q3, .second, vi (1 : Int32), vi (p2.toInt16.toInt32), vr b2, vi (((p2.toInt16.toInt32).toInt8.toInt32) &&& (255 : Int32)), vi (((p2.toInt16.toInt32) >>> ((8 : Int32) &&& 31)).toInt8.toInt32), vi (1 : Int32), vi (1 : Int32)] [(.int (1 : Int32))]) := by
      intro t kt
      refine go108 t ?_
      refine o_ifNo X107 hx (hb hby at_243) ((if0 _ _).trans (feq (by decide : ¬ ((1 : Int32) = (0 : Int32)))).1) ?_
      refine o_iconst X107 hx (hb hby at_246) (v := 1) rfl ?_
      refine o_goto X107 hx (hb hby at_247) (pc' := 251) rfl (by decide) ?_
      refine o_istore X107 hx (hb hby at_251) (L' := #[vi p1, vi p2, vj q3, .second, vi (1 : Int32), vi (p2.toInt16.toInt32), vr b2, vi (((p2.toInt16.toInt32).toInt8.toInt32) &&& (255 : Int32)), vi (((p2.toInt16.toInt32) >>> ((8 : Int32) &&& 31)).toInt8.toInt32), vi (1 : Int32), vi (1 : Int32)]) rfl ?_
      refine o_iload X107 hx (hb hby at_253) rfl ?_
      refine o_ifNo X107 hx (hb hby at_255) ((if0 _ _).trans (feq (by decide : ¬ ((1 : Int32) = (0 : Int32)))).1) ?_
      refine o_iload X107 hx (hb hby at_258) rfl ?_
      refine o_ifNo X107 hx (hb hby at_260) ((if0 _ _).trans (feq (by decide : ¬ ((1 : Int32) = (0 : Int32)))).1) ?_
      refine o_iconst X107 hx (hb hby at_263) (v := 1) rfl ?_
      refine o_goto X107 hx (hb hby at_264) (pc' := 268) rfl (by decide) ?_
      exact kt
    obtain ⟨fs, hr, hrun, hended, hW, hsame⟩ := X107.leave (v := some (.int (1 : Int32))) (fun h => by rw [Bd.returns] at h; cases h)
    refine ⟨_, _, pre0 _ (go109 _ ?_), hrun, hended, _, _, rfl, ?_, ⟨_, rfl⟩, hW, hsame.mono (by decide) (by decide)⟩
    · skip
      exact retN X107 hx (t := .boolean) Bd.returns (by simp) (hb hby at_268) hr
    · show Q0 Z p1 p2 q3 h0 n0 _ T107.heap _
      rw [eh107]
      exact ⟨rfl, N107⟩
  · skip
    have go110 : Go p e below s₁ F0 T34 (mkF m 94 #[vi p1, vi p2, vj q3, .second, vi (2 : Int32), vi (p2.toInt16.toInt32), vr b2, .unset, .unset, .unset, .unset] []) := by rw [hcs37] at go36; exact go36
    have go111 : Go p e below s₁ F0 T34 (mkF m 100 #[vi p1, vi p2, vj q3, .second, vi (2 : Int32), vi (p2.toInt16.toInt32), vr b2, .unset, .unset, .unset, .unset] [(.int (p2.toInt16.toInt32)), (.int (2 : Int32)), (.ref b2)]) := by
      intro t kt
      refine go110 t ?_
      refine o_aload X34 hx (hb hby at_94) rfl rfl ?_
      refine o_iload X34 hx (hb hby at_96) rfl ?_
      refine o_iload X34 hx (hb hby at_98) rfl ?_
      exact kt
    obtain ⟨_, _, ⟨T112, L112, k112, n112⟩, -, X112, ⟨Lc112, hQ112, l112, y112, z112⟩, st112⟩ := Jvm.LawKit.callS X34 hx (y := y_0) hown (mvT hZ (own_w hw 1 rfl)) (mvT hZ (own_w hw 2 rfl)) (mvT hZ (own_w hw 3 rfl)) (mvT hZ (own_w hw 4 rfl)) (by decide) (backOf (W := 0) (rm1_2 l Z a0 hw [] b2 (p2.toInt16.toInt32) k2 ((q3.toInt32).toInt8.toInt32) (((q3 >>> ((8 : Int32) &&& 0x3f).toInt64).toInt32).toInt8.toInt32) (((q3 >>> ((16 : Int32) &&& 0x3f).toInt64).toInt32).toInt8.toInt32) (((q3 >>> ((24 : Int32) &&& 0x3f).toInt64).toInt32).toInt8.toInt32) (((q3 >>> ((32 : Int32) &&& 0x3f).toInt64).toInt32).toInt8.toInt32) (((q3 >>> ((40 : Int32) &&& 0x3f).toInt64).toInt32).toInt8.toInt32) (((q3 >>> ((48 : Int32) &&& 0x3f).toInt64).toInt32).toInt8.toInt32) (((q3 >>> ((56 : Int32) &&& 0x3f).toInt64).toInt32).toInt8.toInt32) h34 n0 Z35 V34 g_b2) hZ (own_w hw 4 rfl) (own_w hw 3 rfl) (by decide) (by decide)) (g := (mkF m 100 #[vi p1, vi p2, vj q3, .second, vi (2 : Int32), vi (p2.toInt16.toInt32), vr b2, .unset, .unset, .unset, .unset] [(.int (p2.toInt16.toInt32)), (.int (2 : Int32)), (.ref b2)])) rfl (by rw [hml]; rfl) (argsL := [(.ref b2), (.int (2 : Int32)), (.int (p2.toInt16.toInt32))]) (rest := []) (lenOf pd0_0 rfl) rfl (by show 2 * 0 + _ ≤ _; exact Nat.le_of_eq rfl) (hb hby at_100) (fun _ _ => ⟨rfl, e34, (by decide : 1 + 0 ≤ _), (by decide : 8 + 0 ≤ _)⟩)
    dsimp only [Pt.U, Pt.locs, Pt.cells, Pt.slots] at X112 l112 y112 z112 st112 hQ112
    subst l112 y112 z112
    obtain ⟨rfl, Nq112, Kc112, V_112⟩ := hQ112
    have N112 := Fr.app N34 Nq112
    have Z113 : n0 ≤ T112.heap.size := Nat.le_trans Z35 Kc112.1
    have go114 : Go p e below s₁ F0 T112 (mkF m 103 #[vi p1, vi p2, vj q3, .second, vi (2 : Int32), vi (p2.toInt16.toInt32), vr b2, .unset, .unset, .unset, .unset] []) := fun t k => go111 t (st112 t k)
    have go115 : Go p e below s₁ F0 T112 (mkF m 109 #[vi p1, vi p2, vj q3, .second, vi (2 : Int32), vi (p2.toInt16.toInt32), vr b2, .unset, .unset, .unset, .unset] [(.int (4 : Int32)), (.ref b2)]) := by
      intro t kt
      refine go114 t ?_
      refine o_aload X112 hx (hb hby at_103) rfl rfl ?_
      refine o_iconst X112 hx (hb hby at_105) (v := 2) rfl ?_
      refine o_iload X112 hx (hb hby at_106) rfl ?_
      refine o_imulE X112 hx (hb hby at_108) (v := 4) rfl ?_
      exact kt
    obtain ⟨cl116, Ar116, -, Sz116, Nn116, Hs116, -⟩ := id V_112
    have hin116 : ¬ ((4 : Int32) < 0 ∨ cl116.slots.size ≤ ((4 : Int32)).toNatClampNeg) := inb_of Sz116 ⟨by decide, by decide⟩
    have hat116 : cl116.slots[((4 : Int32)).toNatClampNeg]? = some (.int ((p2.toInt16.toInt32).toInt8.toInt32)) := Hs116.at hin116 rfl
    have go117 : Go p e below s₁ F0 T112 (mkF m 124 #[vi p1, vi p2, vj q3, .second, vi (2 : Int32), vi (p2.toInt16.toInt32), vr b2, vi (((p2.toInt16.toInt32).toInt8.toInt32) &&& (255 : Int32)), .unset, .unset, .unset] [(.int (5 : Int32)), (.ref b2)]) := by
      intro t kt
      refine go115 t ?_
      refine o_baload X112 hx hZ rfl Ar116 hin116 hat116 (hb hby at_109) ?_
      refine o_sipush X112 hx (hb hby at_110) (v := 255) rfl ?_
      refine o_iand X112 hx (hb hby at_113) ?_
      refine o_istore X112 hx (hb hby at_114) (L' := #[vi p1, vi p2, vj q3, .second, vi (2 : Int32), vi (p2.toInt16.toInt32), vr b2, vi (((p2.toInt16.toInt32).toInt8.toInt32) &&& (255 : Int32)), .unset, .unset, .unset]) rfl ?_
      refine o_aload X112 hx (hb hby at_116) rfl rfl ?_
      refine o_iconst X112 hx (hb hby at_118) (v := 2) rfl ?_
      refine o_iload X112 hx (hb hby at_119) rfl ?_
      refine o_imulE X112 hx (hb hby at_121) (v := 4) rfl ?_
      refine o_iconst X112 hx (hb hby at_122) (v := 1) rfl ?_
      refine o_iaddE X112 hx (hb hby at_123) (v := 5) rfl ?_
      exact kt
    obtain ⟨cl118, Ar118, -, Sz118, Nn118, Hs118, -⟩ := id V_112
    have hin118 : ¬ ((5 : Int32) < 0 ∨ cl118.slots.size ≤ ((5 : Int32)).toNatClampNeg) := inb_of Sz118 ⟨by decide, by decide⟩
    have hat118 : cl118.slots[((5 : Int32)).toNatClampNeg]? = some (.int (((p2.toInt16.toInt32) >>> ((8 : Int32) &&& 31)).toInt8.toInt32)) := Hs118.at hin118 rfl
    have go120 : Go p e below s₁ F0 T112 (mkF m 138 #[vi p1, vi p2, vj q3, .second, vi (2 : Int32), vi (p2.toInt16.toInt32), vr b2, vi (((p2.toInt16.toInt32).toInt8.toInt32) &&& (255 : Int32)), vi (((p2.toInt16.toInt32) >>> ((8 : Int32) &&& 31)).toInt8.toInt32), .unset, .unset] [(.int (p2.toInt16.toInt32)), (.int (((((p2.toInt16.toInt32) >>> ((8 : Int32) &&& 31)).toInt8.toInt32) * (256 : Int32)) + (((p2.toInt16.toInt32).toInt8.toInt32) &&& (255 : Int32))))]) := by
      intro t kt
      refine go117 t ?_
      refine o_baload X112 hx hZ rfl Ar118 hin118 hat118 (hb hby at_124) ?_
      refine o_istore X112 hx (hb hby at_125) (L' := #[vi p1, vi p2, vj q3, .second, vi (2 : Int32), vi (p2.toInt16.toInt32), vr b2, vi (((p2.toInt16.toInt32).toInt8.toInt32) &&& (255 : Int32)), vi (((p2.toInt16.toInt32) >>> ((8 : Int32) &&& 31)).toInt8.toInt32), .unset, .unset]) rfl ?_
      refine o_iload X112 hx (hb hby at_127) rfl ?_
      refine o_sipush X112 hx (hb hby at_129) (v := 256) rfl ?_
      refine o_imul X112 hx (hb hby at_132) ?_
      refine o_iload X112 hx (hb hby at_133) rfl ?_
      refine o_iadd X112 hx (hb hby at_135) ?_
      refine o_iload X112 hx (hb hby at_136) rfl ?_
      exact kt
    have hd119 : (((((p2.toInt16.toInt32) >>> ((8 : Int32) &&& 31)).toInt8.toInt32) * (256 : Int32)) + (((p2.toInt16.toInt32).toInt8.toInt32) &&& (255 : Int32))) = (p2.toInt16.toInt32) := own_law _
    have go121 : Go p e below s₁ F0 T112 (mkF m 154 #[vi p1, vi p2, vj q3, .second, vi (2 : Int32), vi (p2.toInt16.toInt32), vr b2, vi (((p2.toInt16.toInt32).toInt8.toInt32) &&& (255 : Int32)), vi (((p2.toInt16.toInt32) >>> ((8 : Int32) &&& 31)).toInt8.toInt32), vi (1 : Int32), .unset] [(.long q3), (.int (2 : Int32)), (.int (0 : Int32)), (.ref b2)]) := by
      intro t kt
      refine go120 t ?_
      refine o_icmpNo X112 hx (hb hby at_138) (teq hd119).2 ?_
      refine o_iconst X112 hx (hb hby at_141) (v := 1) rfl ?_
      refine o_goto X112 hx (hb hby at_142) (pc' := 146) rfl (by decide) ?_
      refine o_istore X112 hx (hb hby at_146) (L' := #[vi p1, vi p2, vj q3, .second, vi (2 : Int32), vi (p2.toInt16.toInt32), vr b2, vi (((p2.toInt16.toInt32).toInt8.toInt32) &&& (255 : Int32)), vi (((p2.toInt16.toInt32) >>> ((8 : Int32) &&& 31)).toInt8.toInt32), vi (1 : Int32), .unset]) rfl ?_
      refine o_aload X112 hx (hb hby at_148) rfl rfl ?_
      refine o_iconst X112 hx (hb hby at_150) (v := 0) rfl ?_
      refine o_iload X112 hx (hb hby at_151) rfl ?_
      refine o_lloadN X112 hx (hb hby at_153) rfl ?_
      exact kt
    obtain ⟨_, _, ⟨T122, L122, k122, n122⟩, -, X122, ⟨Lc122, hQ122, l122, y122, z122⟩, st122⟩ := Jvm.LawKit.callS X112 hx (y := y_1) hown (mvT hZ (own_w hw 5 rfl)) (mvT hZ (own_w hw 6 rfl)) (mvT hZ (own_w hw 7 rfl)) (mvT hZ (own_w hw 8 rfl)) (by decide) (backOf (W := 0) (rm2_2_0 l Z a0 hw [] b2 q3 k2 ((q3.toInt32).toInt8.toInt32) (((q3 >>> ((8 : Int32) &&& 0x3f).toInt64).toInt32).toInt8.toInt32) (((q3 >>> ((16 : Int32) &&& 0x3f).toInt64).toInt32).toInt8.toInt32) (((q3 >>> ((24 : Int32) &&& 0x3f).toInt64).toInt32).toInt8.toInt32) ((p2.toInt16.toInt32).toInt8.toInt32) (((p2.toInt16.toInt32) >>> ((8 : Int32) &&& 31)).toInt8.toInt32) (((q3 >>> ((48 : Int32) &&& 0x3f).toInt64).toInt32).toInt8.toInt32) (((q3 >>> ((56 : Int32) &&& 0x3f).toInt64).toInt32).toInt8.toInt32) (T112.heap) n0 Z113 V_112 (own_sh0 _)) hZ (own_w hw 8 rfl) (own_w hw 7 rfl) (by decide) (by decide)) (g := (mkF m 154 #[vi p1, vi p2, vj q3, .second, vi (2 : Int32), vi (p2.toInt16.toInt32), vr b2, vi (((p2.toInt16.toInt32).toInt8.toInt32) &&& (255 : Int32)), vi (((p2.toInt16.toInt32) >>> ((8 : Int32) &&& 31)).toInt8.toInt32), vi (1 : Int32), .unset] [(.long q3), (.int (2 : Int32)), (.int (0 : Int32)), (.ref b2)])) rfl (by rw [hml]; rfl) (argsL := [(.ref b2), (.int (0 : Int32)), (.int (2 : Int32)), (.long q3)]) (rest := []) (lenOf pd0_1 rfl) rfl (by show 2 * 0 + _ ≤ _; exact Nat.le_of_eq rfl) (hb hby at_154) (fun _ _ => ⟨rfl, rfl, (by decide : 1 + 0 ≤ _), (by decide : 8 + 0 ≤ _)⟩)
    dsimp only [Pt.U, Pt.locs, Pt.cells, Pt.slots] at X122 l122 y122 z122 st122 hQ122
    subst l122 y122 z122
    obtain ⟨rfl, Nq122, eh122⟩ := hQ122
    have N122 := Fr.app N112 Nq122
    have go123 : Go p e below s₁ F0 T122 (mkF m 157 #[vi p1, vi p2, vj q3, .second, vi (2 : Int32), vi (p2.toInt16.toInt32), vr b2, vi (((p2.toInt16.toInt32).toInt8.toInt32) &&& (255 : Int32)), vi (((p2.toInt16.toInt32) >>> ((8 : Int32) &&& 31)).toInt8.toInt32), vi (1 : Int32), .unset] [(.int (1 : Int32))]) := fun t k => go121 t (st122 t k)
    have go124 : Go p e below s₁ F0 T122 (mkF m 166 #[vi p1, vi p2, vj q3, .second, vi (2 : Int32), vi (p2.toInt16.toInt32), vr b2, vi (((p2.toInt16.toInt32).toInt8.toInt32) &&& (255 : Int32)), vi (((p2.toInt16.toInt32) >>> ((8 : Int32) &&& 31)).toInt8.toInt32), vi (1 : Int32), .unset] [(.long q3), (.int (2 : Int32)), (.int (1 : Int32)), (.ref b2)]) := by
      intro t kt
      refine go123 t ?_
      refine o_ifNo X122 hx (hb hby at_157) ((if0 _ _).trans (feq (by decide : ¬ ((1 : Int32) = (0 : Int32)))).1) ?_
      refine o_aload X122 hx (hb hby at_160) rfl rfl ?_
      refine o_iconst X122 hx (hb hby at_162) (v := 1) rfl ?_
      refine o_iload X122 hx (hb hby at_163) rfl ?_
      refine o_lloadN X122 hx (hb hby at_165) rfl ?_
      exact kt
    obtain ⟨_, _, ⟨T125, L125, k125, n125⟩, -, X125, ⟨Lc125, hQ125, l125, y125, z125⟩, st125⟩ := Jvm.LawKit.callS X122 hx (y := y_1) hown (mvT hZ (own_w hw 5 rfl)) (mvT hZ (own_w hw 6 rfl)) (mvT hZ (own_w hw 7 rfl)) (mvT hZ (own_w hw 8 rfl)) (by decide) (backOf (W := 0) (rm2_2_1 l Z a0 hw [] b2 q3 k2 ((q3.toInt32).toInt8.toInt32) (((q3 >>> ((8 : Int32) &&& 0x3f).toInt64).toInt32).toInt8.toInt32) (((q3 >>> ((16 : Int32) &&& 0x3f).toInt64).toInt32).toInt8.toInt32) (((q3 >>> ((24 : Int32) &&& 0x3f).toInt64).toInt32).toInt8.toInt32) ((p2.toInt16.toInt32).toInt8.toInt32) (((p2.toInt16.toInt32) >>> ((8 : Int32) &&& 31)).toInt8.toInt32) (((q3 >>> ((48 : Int32) &&& 0x3f).toInt64).toInt32).toInt8.toInt32) (((q3 >>> ((56 : Int32) &&& 0x3f).toInt64).toInt32).toInt8.toInt32) (T112.heap) n0 Z113 V_112 rfl) hZ (own_w hw 8 rfl) (own_w hw 7 rfl) (by decide) (by decide)) (g := (mkF m 166 #[vi p1, vi p2, vj q3, .second, vi (2 : Int32), vi (p2.toInt16.toInt32), vr b2, vi (((p2.toInt16.toInt32).toInt8.toInt32) &&& (255 : Int32)), vi (((p2.toInt16.toInt32) >>> ((8 : Int32) &&& 31)).toInt8.toInt32), vi (1 : Int32), .unset] [(.long q3), (.int (2 : Int32)), (.int (1 : Int32)), (.ref b2)])) rfl (by rw [hml]; rfl) (argsL := [(.ref b2), (.int (1 : Int32)), (.int (2 : Int32)), (.long q3)]) (rest := []) (lenOf pd0_1 rfl) rfl (by show 2 * 0 + _ ≤ _; exact Nat.le_of_eq rfl) (hb hby at_166) (fun _ _ => ⟨rfl, eh122, (by decide : 1 + 0 ≤ _), (by decide : 8 + 0 ≤ _)⟩)
    dsimp only [Pt.U, Pt.locs, Pt.cells, Pt.slots] at X125 l125 y125 z125 st125 hQ125
    subst l125 y125 z125
    obtain ⟨rfl, Nq125, eh125⟩ := hQ125
    have N125 := Fr.app N122 Nq125
    have go126 : Go p e below s₁ F0 T125 (mkF m 169 #[vi p1, vi p2, vj q3, .second, vi (2 : Int32), vi (p2.toInt16.toInt32), vr b2, vi (((p2.toInt16.toInt32).toInt8.toInt32) &&& (255 : Int32)), vi (((p2.toInt16.toInt32) >>> ((8 : Int32) &&& 31)).toInt8.toInt32), vi (1 : Int32), .unset] [(.int (1 : Int32))]) := fun t k => go124 t (st125 t k)
    have go127 : Go p e below s₁ F0 T125 (mkF m 178 #[vi p1, vi p2, vj q3, .second, vi (2 : Int32), vi (p2.toInt16.toInt32), vr b2, vi (((p2.toInt16.toInt32).toInt8.toInt32) &&& (255 : Int32)), vi (((p2.toInt16.toInt32) >>> ((8 : Int32) &&& 31)).toInt8.toInt32), vi (1 : Int32), .unset] [(.long q3), (.int (2 : Int32)), (.int (2 : Int32)), (.ref b2)]) := by
      intro t kt
      refine go126 t ?_
      refine o_ifNo X125 hx (hb hby at_169) ((if0 _ _).trans (feq (by decide : ¬ ((1 : Int32) = (0 : Int32)))).1) ?_
      refine o_aload X125 hx (hb hby at_172) rfl rfl ?_
      refine o_iconst X125 hx (hb hby at_174) (v := 2) rfl ?_
      refine o_iload X125 hx (hb hby at_175) rfl ?_
      refine o_lloadN X125 hx (hb hby at_177) rfl ?_
      exact kt
    obtain ⟨_, _, ⟨T128, L128, k128, n128⟩, -, X128, ⟨Lc128, hQ128, l128, y128, z128⟩, st128⟩ := Jvm.LawKit.callS X125 hx (y := y_1) hown (mvT hZ (own_w hw 5 rfl)) (mvT hZ (own_w hw 6 rfl)) (mvT hZ (own_w hw 7 rfl)) (mvT hZ (own_w hw 8 rfl)) (by decide) (backOf (W := 0) (rm2_2_2 l Z a0 hw [] b2 q3 k2 ((q3.toInt32).toInt8.toInt32) (((q3 >>> ((8 : Int32) &&& 0x3f).toInt64).toInt32).toInt8.toInt32) (((q3 >>> ((16 : Int32) &&& 0x3f).toInt64).toInt32).toInt8.toInt32) (((q3 >>> ((24 : Int32) &&& 0x3f).toInt64).toInt32).toInt8.toInt32) ((p2.toInt16.toInt32).toInt8.toInt32) (((p2.toInt16.toInt32) >>> ((8 : Int32) &&& 31)).toInt8.toInt32) (((q3 >>> ((48 : Int32) &&& 0x3f).toInt64).toInt32).toInt8.toInt32) (((q3 >>> ((56 : Int32) &&& 0x3f).toInt64).toInt32).toInt8.toInt32) (T112.heap) n0 Z113 V_112 rfl) hZ (own_w hw 8 rfl) (own_w hw 7 rfl) (by decide) (by decide)) (g := (mkF m 178 #[vi p1, vi p2, vj q3, .second, vi (2 : Int32), vi (p2.toInt16.toInt32), vr b2, vi (((p2.toInt16.toInt32).toInt8.toInt32) &&& (255 : Int32)), vi (((p2.toInt16.toInt32) >>> ((8 : Int32) &&& 31)).toInt8.toInt32), vi (1 : Int32), .unset] [(.long q3), (.int (2 : Int32)), (.int (2 : Int32)), (.ref b2)])) rfl (by rw [hml]; rfl) (argsL := [(.ref b2), (.int (2 : Int32)), (.int (2 : Int32)), (.long q3)]) (rest := []) (lenOf pd0_1 rfl) rfl (by show 2 * 0 + _ ≤ _; exact Nat.le_of_eq rfl) (hb hby at_178) (fun _ _ => ⟨rfl, eh125, (by decide : 1 + 0 ≤ _), (by decide : 8 + 0 ≤ _)⟩)
    dsimp only [Pt.U, Pt.locs, Pt.cells, Pt.slots] at X128 l128 y128 z128 st128 hQ128
    subst l128 y128 z128
    obtain ⟨rfl, Nq128, eh128⟩ := hQ128
    have N128 := Fr.app N125 Nq128
    have go129 : Go p e below s₁ F0 T128 (mkF m 181 #[vi p1, vi p2, vj q3, .second, vi (2 : Int32), vi (p2.toInt16.toInt32), vr b2, vi (((p2.toInt16.toInt32).toInt8.toInt32) &&& (255 : Int32)), vi (((p2.toInt16.toInt32) >>> ((8 : Int32) &&& 31)).toInt8.toInt32), vi (1 : Int32), .unset] [(.int (1 : Int32))]) := fun t k => go127 t (st128 t k)
    have go130 : Go p e below s₁ F0 T128 (mkF m 190 #[vi p1, vi p2, vj q3, .second, vi (2 : Int32), vi (p2.toInt16.toInt32), vr b2, vi (((p2.toInt16.toInt32).toInt8.toInt32) &&& (255 : Int32)), vi (((p2.toInt16.toInt32) >>> ((8 : Int32) &&& 31)).toInt8.toInt32), vi (1 : Int32), .unset] [(.long q3), (.int (2 : Int32)), (.int (3 : Int32)), (.ref b2)]) := by
      intro t kt
      refine go129 t ?_
      refine o_ifNo X128 hx (hb hby at_181) ((if0 _ _).trans (feq (by decide : ¬ ((1 : Int32) = (0 : Int32)))).1) ?_
      refine o_aload X128 hx (hb hby at_184) rfl rfl ?_
      refine o_iconst X128 hx (hb hby at_186) (v := 3) rfl ?_
      refine o_iload X128 hx (hb hby at_187) rfl ?_
      refine o_lloadN X128 hx (hb hby at_189) rfl ?_
      exact kt
    obtain ⟨_, _, ⟨T131, L131, k131, n131⟩, -, X131, ⟨Lc131, hQ131, l131, y131, z131⟩, st131⟩ := Jvm.LawKit.callS X128 hx (y := y_1) hown (mvT hZ (own_w hw 5 rfl)) (mvT hZ (own_w hw 6 rfl)) (mvT hZ (own_w hw 7 rfl)) (mvT hZ (own_w hw 8 rfl)) (by decide) (backOf (W := 0) (rm2_2_3 l Z a0 hw [] b2 q3 k2 ((q3.toInt32).toInt8.toInt32) (((q3 >>> ((8 : Int32) &&& 0x3f).toInt64).toInt32).toInt8.toInt32) (((q3 >>> ((16 : Int32) &&& 0x3f).toInt64).toInt32).toInt8.toInt32) (((q3 >>> ((24 : Int32) &&& 0x3f).toInt64).toInt32).toInt8.toInt32) ((p2.toInt16.toInt32).toInt8.toInt32) (((p2.toInt16.toInt32) >>> ((8 : Int32) &&& 31)).toInt8.toInt32) (((q3 >>> ((48 : Int32) &&& 0x3f).toInt64).toInt32).toInt8.toInt32) (((q3 >>> ((56 : Int32) &&& 0x3f).toInt64).toInt32).toInt8.toInt32) (T112.heap) n0 Z113 V_112 rfl) hZ (own_w hw 8 rfl) (own_w hw 7 rfl) (by decide) (by decide)) (g := (mkF m 190 #[vi p1, vi p2, vj q3, .second, vi (2 : Int32), vi (p2.toInt16.toInt32), vr b2, vi (((p2.toInt16.toInt32).toInt8.toInt32) &&& (255 : Int32)), vi (((p2.toInt16.toInt32) >>> ((8 : Int32) &&& 31)).toInt8.toInt32), vi (1 : Int32), .unset] [(.long q3), (.int (2 : Int32)), (.int (3 : Int32)), (.ref b2)])) rfl (by rw [hml]; rfl) (argsL := [(.ref b2), (.int (3 : Int32)), (.int (2 : Int32)), (.long q3)]) (rest := []) (lenOf pd0_1 rfl) rfl (by show 2 * 0 + _ ≤ _; exact Nat.le_of_eq rfl) (hb hby at_190) (fun _ _ => ⟨rfl, eh128, (by decide : 1 + 0 ≤ _), (by decide : 8 + 0 ≤ _)⟩)
    dsimp only [Pt.U, Pt.locs, Pt.cells, Pt.slots] at X131 l131 y131 z131 st131 hQ131
    subst l131 y131 z131
    obtain ⟨rfl, Nq131, eh131⟩ := hQ131
    have N131 := Fr.app N128 Nq131
    have go132 : Go p e below s₁ F0 T131 (mkF m 193 #[vi p1, vi p2, vj q3, .second, vi (2 : Int32), vi (p2.toInt16.toInt32), vr b2, vi (((p2.toInt16.toInt32).toInt8.toInt32) &&& (255 : Int32)), vi (((p2.toInt16.toInt32) >>> ((8 : Int32) &&& 31)).toInt8.toInt32), vi (1 : Int32), .unset] [(.int (1 : Int32))]) := fun t k => go130 t (st131 t k)
    have go133 : Go p e below s₁ F0 T131 (mkF m 202 #[vi p1, vi p2, vj q3, .second, vi (2 : Int32), vi (p2.toInt16.toInt32), vr b2, vi (((p2.toInt16.toInt32).toInt8.toInt32) &&& (255 : Int32)), vi (((p2.toInt16.toInt32) >>> ((8 : Int32) &&& 31)).toInt8.toInt32), vi (1 : Int32), .unset] [(.long q3), (.int (2 : Int32)), (.int (4 : Int32)), (.ref b2)]) := by
      intro t kt
      refine go132 t ?_
      refine o_ifNo X131 hx (hb hby at_193) ((if0 _ _).trans (feq (by decide : ¬ ((1 : Int32) = (0 : Int32)))).1) ?_
      refine o_aload X131 hx (hb hby at_196) rfl rfl ?_
      refine o_iconst X131 hx (hb hby at_198) (v := 4) rfl ?_
      refine o_iload X131 hx (hb hby at_199) rfl ?_
      refine o_lloadN X131 hx (hb hby at_201) rfl ?_
      exact kt
    obtain ⟨_, _, ⟨T134, L134, k134, n134⟩, -, X134, ⟨Lc134, hQ134, l134, y134, z134⟩, st134⟩ := Jvm.LawKit.callS X131 hx (y := y_1) hown (mvT hZ (own_w hw 5 rfl)) (mvT hZ (own_w hw 6 rfl)) (mvT hZ (own_w hw 7 rfl)) (mvT hZ (own_w hw 8 rfl)) (by decide) (backOf (W := 0) (rm2_2_4 l Z a0 hw [] b2 q3 k2 ((q3.toInt32).toInt8.toInt32) (((q3 >>> ((8 : Int32) &&& 0x3f).toInt64).toInt32).toInt8.toInt32) (((q3 >>> ((16 : Int32) &&& 0x3f).toInt64).toInt32).toInt8.toInt32) (((q3 >>> ((24 : Int32) &&& 0x3f).toInt64).toInt32).toInt8.toInt32) ((p2.toInt16.toInt32).toInt8.toInt32) (((p2.toInt16.toInt32) >>> ((8 : Int32) &&& 31)).toInt8.toInt32) (((q3 >>> ((48 : Int32) &&& 0x3f).toInt64).toInt32).toInt8.toInt32) (((q3 >>> ((56 : Int32) &&& 0x3f).toInt64).toInt32).toInt8.toInt32) (T112.heap) n0 Z113 V_112) hZ (own_w hw 8 rfl) (own_w hw 7 rfl) (by decide) (by decide)) (g := (mkF m 202 #[vi p1, vi p2, vj q3, .second, vi (2 : Int32), vi (p2.toInt16.toInt32), vr b2, vi (((p2.toInt16.toInt32).toInt8.toInt32) &&& (255 : Int32)), vi (((p2.toInt16.toInt32) >>> ((8 : Int32) &&& 31)).toInt8.toInt32), vi (1 : Int32), .unset] [(.long q3), (.int (2 : Int32)), (.int (4 : Int32)), (.ref b2)])) rfl (by rw [hml]; rfl) (argsL := [(.ref b2), (.int (4 : Int32)), (.int (2 : Int32)), (.long q3)]) (rest := []) (lenOf pd0_1 rfl) rfl (by show 2 * 0 + _ ≤ _; exact Nat.le_of_eq rfl) (hb hby at_202) (fun _ _ => ⟨rfl, eh131, (by decide : 1 + 0 ≤ _), (by decide : 8 + 0 ≤ _)⟩)
    dsimp only [Pt.U, Pt.locs, Pt.cells, Pt.slots] at X134 l134 y134 z134 st134 hQ134
    subst l134 y134 z134
    obtain ⟨rfl, Nq134, eh134⟩ := hQ134
    have N134 := Fr.app N131 Nq134
    have go135 : Go p e below s₁ F0 T134 (mkF m 205 #[vi p1, vi p2, vj q3, .second, vi (2 : Int32), vi (p2.toInt16.toInt32), vr b2, vi (((p2.toInt16.toInt32).toInt8.toInt32) &&& (255 : Int32)), vi (((p2.toInt16.toInt32) >>> ((8 : Int32) &&& 31)).toInt8.toInt32), vi (1 : Int32), .unset] [(.int (1 : Int32))]) := fun t k => go133 t (st134 t k)
    have go136 : Go p e below s₁ F0 T134 (mkF m 214 #[vi p1, vi p2, vj q3, .second, vi (2 : Int32), vi (p2.toInt16.toInt32), vr b2, vi (((p2.toInt16.toInt32).toInt8.toInt32) &&& (255 : Int32)), vi (((p2.toInt16.toInt32) >>> ((8 : Int32) &&& 31)).toInt8.toInt32), vi (1 : Int32), .unset] [(.long q3), (.int (2 : Int32)), (.int (5 : Int32)), (.ref b2)]) := by
      intro t kt
      refine go135 t ?_
      refine o_ifNo X134 hx (hb hby at_205) ((if0 _ _).trans (feq (by decide : ¬ ((1 : Int32) = (0 : Int32)))).1) ?_
      refine o_aload X134 hx (hb hby at_208) rfl rfl ?_
      refine o_iconst X134 hx (hb hby at_210) (v := 5) rfl ?_
      refine o_iload X134 hx (hb hby at_211) rfl ?_
      refine o_lloadN X134 hx (hb hby at_213) rfl ?_
      exact kt
    obtain ⟨_, _, ⟨T137, L137, k137, n137⟩, -, X137, ⟨Lc137, hQ137, l137, y137, z137⟩, st137⟩ := Jvm.LawKit.callS X134 hx (y := y_1) hown (mvT hZ (own_w hw 5 rfl)) (mvT hZ (own_w hw 6 rfl)) (mvT hZ (own_w hw 7 rfl)) (mvT hZ (own_w hw 8 rfl)) (by decide) (backOf (W := 0) (rm2_2_5 l Z a0 hw [] b2 q3 k2 ((q3.toInt32).toInt8.toInt32) (((q3 >>> ((8 : Int32) &&& 0x3f).toInt64).toInt32).toInt8.toInt32) (((q3 >>> ((16 : Int32) &&& 0x3f).toInt64).toInt32).toInt8.toInt32) (((q3 >>> ((24 : Int32) &&& 0x3f).toInt64).toInt32).toInt8.toInt32) ((p2.toInt16.toInt32).toInt8.toInt32) (((p2.toInt16.toInt32) >>> ((8 : Int32) &&& 31)).toInt8.toInt32) (((q3 >>> ((48 : Int32) &&& 0x3f).toInt64).toInt32).toInt8.toInt32) (((q3 >>> ((56 : Int32) &&& 0x3f).toInt64).toInt32).toInt8.toInt32) (T112.heap) n0 Z113 V_112) hZ (own_w hw 8 rfl) (own_w hw 7 rfl) (by decide) (by decide)) (g := (mkF m 214 #[vi p1, vi p2, vj q3, .second, vi (2 : Int32), vi (p2.toInt16.toInt32), vr b2, vi (((p2.toInt16.toInt32).toInt8.toInt32) &&& (255 : Int32)), vi (((p2.toInt16.toInt32) >>> ((8 : Int32) &&& 31)).toInt8.toInt32), vi (1 : Int32), .unset] [(.long q3), (.int (2 : Int32)), (.int (5 : Int32)), (.ref b2)])) rfl (by rw [hml]; rfl) (argsL := [(.ref b2), (.int (5 : Int32)), (.int (2 : Int32)), (.long q3)]) (rest := []) (lenOf pd0_1 rfl) rfl (by show 2 * 0 + _ ≤ _; exact Nat.le_of_eq rfl) (hb hby at_214) (fun _ _ => ⟨rfl, eh134, (by decide : 1 + 0 ≤ _), (by decide : 8 + 0 ≤ _)⟩)
    dsimp only [Pt.U, Pt.locs, Pt.cells, Pt.slots] at X137 l137 y137 z137 st137 hQ137
    subst l137 y137 z137
    obtain ⟨rfl, Nq137, eh137⟩ := hQ137
    have N137 := Fr.app N134 Nq137
    have go138 : Go p e below s₁ F0 T137 (mkF m 217 #[vi p1, vi p2, vj q3, .second, vi (2 : Int32), vi (p2.toInt16.toInt32), vr b2, vi (((p2.toInt16.toInt32).toInt8.toInt32) &&& (255 : Int32)), vi (((p2.toInt16.toInt32) >>> ((8 : Int32) &&& 31)).toInt8.toInt32), vi (1 : Int32), .unset] [(.int (1 : Int32))]) := fun t k => go136 t (st137 t k)
    have go139 : Go p e below s₁ F0 T137 (mkF m 227 #[vi p1, vi p2, vj q3, .second, vi (2 : Int32), vi (p2.toInt16.toInt32), vr b2, vi (((p2.toInt16.toInt32).toInt8.toInt32) &&& (255 : Int32)), vi (((p2.toInt16.toInt32) >>> ((8 : Int32) &&& 31)).toInt8.toInt32), vi (1 : Int32), .unset] [(.long q3), (.int (2 : Int32)), (.int (6 : Int32)), (.ref b2)]) := by
      intro t kt
      refine go138 t ?_
      refine o_ifNo X137 hx (hb hby at_217) ((if0 _ _).trans (feq (by decide : ¬ ((1 : Int32) = (0 : Int32)))).1) ?_
      refine o_aload X137 hx (hb hby at_220) rfl rfl ?_
      refine o_bipush X137 hx (hb hby at_222) (v := 6) rfl ?_
      refine o_iload X137 hx (hb hby at_224) rfl ?_
      refine o_lloadN X137 hx (hb hby at_226) rfl ?_
      exact kt
    obtain ⟨_, _, ⟨T140, L140, k140, n140⟩, -, X140, ⟨Lc140, hQ140, l140, y140, z140⟩, st140⟩ := Jvm.LawKit.callS X137 hx (y := y_1) hown (mvT hZ (own_w hw 5 rfl)) (mvT hZ (own_w hw 6 rfl)) (mvT hZ (own_w hw 7 rfl)) (mvT hZ (own_w hw 8 rfl)) (by decide) (backOf (W := 0) (rm2_2_6 l Z a0 hw [] b2 q3 k2 ((q3.toInt32).toInt8.toInt32) (((q3 >>> ((8 : Int32) &&& 0x3f).toInt64).toInt32).toInt8.toInt32) (((q3 >>> ((16 : Int32) &&& 0x3f).toInt64).toInt32).toInt8.toInt32) (((q3 >>> ((24 : Int32) &&& 0x3f).toInt64).toInt32).toInt8.toInt32) ((p2.toInt16.toInt32).toInt8.toInt32) (((p2.toInt16.toInt32) >>> ((8 : Int32) &&& 31)).toInt8.toInt32) (((q3 >>> ((48 : Int32) &&& 0x3f).toInt64).toInt32).toInt8.toInt32) (((q3 >>> ((56 : Int32) &&& 0x3f).toInt64).toInt32).toInt8.toInt32) (T112.heap) n0 Z113 V_112 rfl) hZ (own_w hw 8 rfl) (own_w hw 7 rfl) (by decide) (by decide)) (g := (mkF m 227 #[vi p1, vi p2, vj q3, .second, vi (2 : Int32), vi (p2.toInt16.toInt32), vr b2, vi (((p2.toInt16.toInt32).toInt8.toInt32) &&& (255 : Int32)), vi (((p2.toInt16.toInt32) >>> ((8 : Int32) &&& 31)).toInt8.toInt32), vi (1 : Int32), .unset] [(.long q3), (.int (2 : Int32)), (.int (6 : Int32)), (.ref b2)])) rfl (by rw [hml]; rfl) (argsL := [(.ref b2), (.int (6 : Int32)), (.int (2 : Int32)), (.long q3)]) (rest := []) (lenOf pd0_1 rfl) rfl (by show 2 * 0 + _ ≤ _; exact Nat.le_of_eq rfl) (hb hby at_227) (fun _ _ => ⟨rfl, eh137, (by decide : 1 + 0 ≤ _), (by decide : 8 + 0 ≤ _)⟩)
    dsimp only [Pt.U, Pt.locs, Pt.cells, Pt.slots] at X140 l140 y140 z140 st140 hQ140
    subst l140 y140 z140
    obtain ⟨rfl, Nq140, eh140⟩ := hQ140
    have N140 := Fr.app N137 Nq140
    have go141 : Go p e below s₁ F0 T140 (mkF m 230 #[vi p1, vi p2, vj q3, .second, vi (2 : Int32), vi (p2.toInt16.toInt32), vr b2, vi (((p2.toInt16.toInt32).toInt8.toInt32) &&& (255 : Int32)), vi (((p2.toInt16.toInt32) >>> ((8 : Int32) &&& 31)).toInt8.toInt32), vi (1 : Int32), .unset] [(.int (1 : Int32))]) := fun t k => go139 t (st140 t k)
    have go142 : Go p e below s₁ F0 T140 (mkF m 240 #[vi p1, vi p2, vj q3, .second, vi (2 : Int32), vi (p2.toInt16.toInt32), vr b2, vi (((p2.toInt16.toInt32).toInt8.toInt32) &&& (255 : Int32)), vi (((p2.toInt16.toInt32) >>> ((8 : Int32) &&& 31)).toInt8.toInt32), vi (1 : Int32), .unset] [(.long q3), (.int (2 : Int32)), (.int (7 : Int32)), (.ref b2)]) := by
      intro t kt
      refine go141 t ?_
      refine o_ifNo X140 hx (hb hby at_230) ((if0 _ _).trans (feq (by decide : ¬ ((1 : Int32) = (0 : Int32)))).1) ?_
      refine o_aload X140 hx (hb hby at_233) rfl rfl ?_
      refine o_bipush X140 hx (hb hby at_235) (v := 7) rfl ?_
      refine o_iload X140 hx (hb hby at_237) rfl ?_
      refine o_lloadN X140 hx (hb hby at_239) rfl ?_
      exact kt
    obtain ⟨_, _, ⟨T143, L143, k143, n143⟩, -, X143, ⟨Lc143, hQ143, l143, y143, z143⟩, st143⟩ := Jvm.LawKit.callS X140 hx (y := y_1) hown (mvT hZ (own_w hw 5 rfl)) (mvT hZ (own_w hw 6 rfl)) (mvT hZ (own_w hw 7 rfl)) (mvT hZ (own_w hw 8 rfl)) (by decide) (backOf (W := 0) (rm2_2_7 l Z a0 hw [] b2 q3 k2 ((q3.toInt32).toInt8.toInt32) (((q3 >>> ((8 : Int32) &&& 0x3f).toInt64).toInt32).toInt8.toInt32) (((q3 >>> ((16 : Int32) &&& 0x3f).toInt64).toInt32).toInt8.toInt32) (((q3 >>> ((24 : Int32) &&& 0x3f).toInt64).toInt32).toInt8.toInt32) ((p2.toInt16.toInt32).toInt8.toInt32) (((p2.toInt16.toInt32) >>> ((8 : Int32) &&& 31)).toInt8.toInt32) (((q3 >>> ((48 : Int32) &&& 0x3f).toInt64).toInt32).toInt8.toInt32) (((q3 >>> ((56 : Int32) &&& 0x3f).toInt64).toInt32).toInt8.toInt32) (T112.heap) n0 Z113 V_112 rfl) hZ (own_w hw 8 rfl) (own_w hw 7 rfl) (by decide) (by decide)) (g := (mkF m 240 #[vi p1, vi p2, vj q3, .second, vi (2 : Int32), vi (p2.toInt16.toInt32), vr b2, vi (((p2.toInt16.toInt32).toInt8.toInt32) &&& (255 : Int32)), vi (((p2.toInt16.toInt32) >>> ((8 : Int32) &&& 31)).toInt8.toInt32), vi (1 : Int32), .unset] [(.long q3), (.int (2 : Int32)), (.int (7 : Int32)), (.ref b2)])) rfl (by rw [hml]; rfl) (argsL := [(.ref b2), (.int (7 : Int32)), (.int (2 : Int32)), (.long q3)]) (rest := []) (lenOf pd0_1 rfl) rfl (by show 2 * 0 + _ ≤ _; exact Nat.le_of_eq rfl) (hb hby at_240) (fun _ _ => ⟨rfl, eh140, (by decide : 1 + 0 ≤ _), (by decide : 8 + 0 ≤ _)⟩)
    dsimp only [Pt.U, Pt.locs, Pt.cells, Pt.slots] at X143 l143 y143 z143 st143 hQ143
    subst l143 y143 z143
    obtain ⟨rfl, Nq143, eh143⟩ := hQ143
    have N143 := Fr.app N140 Nq143
    have go144 : Go p e below s₁ F0 T143 (mkF m 243 #[vi p1, vi p2, vj q3, .second, vi (2 : Int32), vi (p2.toInt16.toInt32), vr b2, vi (((p2.toInt16.toInt32).toInt8.toInt32) &&& (255 : Int32)), vi (((p2.toInt16.toInt32) >>> ((8 : Int32) &&& 31)).toInt8.toInt32), vi (1 : Int32), .unset] [(.int (1 : Int32))]) := fun t k => go142 t (st143 t k)
    have go145 : Go p e below s₁ F0 T143 (mkF m 268 #[vi p1, vi p2, vj q3, .second, vi (2 : Int32), vi (p2.toInt16.toInt32), vr b2, vi (((p2.toInt16.toInt32).toInt8.toInt32) &&& (255 : Int32)), vi (((p2.toInt16.toInt32) >>> ((8 : Int32) &&& 31)).toInt8.toInt32), vi (1 : Int32), vi (1 : Int32)] [(.int (1 : Int32))]) := by
      intro t kt
      refine go144 t ?_
      refine o_ifNo X143 hx (hb hby at_243) ((if0 _ _).trans (feq (by decide : ¬ ((1 : Int32) = (0 : Int32)))).1) ?_
      refine o_iconst X143 hx (hb hby at_246) (v := 1) rfl ?_
      refine o_goto X143 hx (hb hby at_247) (pc' := 251) rfl (by decide) ?_
      refine o_istore X143 hx (hb hby at_251) (L' := #[vi p1, vi p2, vj q3, .second, vi (2 : Int32), vi (p2.toInt16.toInt32), vr b2, vi (((p2.toInt16.toInt32).toInt8.toInt32) &&& (255 : Int32)), vi (((p2.toInt16.toInt32) >>> ((8 : Int32) &&& 31)).toInt8.toInt32), vi (1 : Int32), vi (1 : Int32)]) rfl ?_
      refine o_iload X143 hx (hb hby at_253) rfl ?_
      refine o_ifNo X143 hx (hb hby at_255) ((if0 _ _).trans (feq (by decide : ¬ ((1 : Int32) = (0 : Int32)))).1) ?_
      refine o_iload X143 hx (hb hby at_258) rfl ?_
      refine o_ifNo X143 hx (hb hby at_260) ((if0 _ _).trans (feq (by decide : ¬ ((1 : Int32) = (0 : Int32)))).1) ?_
      refine o_iconst X143 hx (hb hby at_263) (v := 1) rfl ?_
      refine o_goto X143 hx (hb hby at_264) (pc' := 268) rfl (by decide) ?_
      exact kt
    obtain ⟨fs, hr, hrun, hended, hW, hsame⟩ := X143.leave (v := some (.int (1 : Int32))) (fun h => by rw [Bd.returns] at h; cases h)
    refine ⟨_, _, pre0 _ (go145 _ ?_), hrun, hended, _, _, rfl, ?_, ⟨_, rfl⟩, hW, hsame.mono (by decide) (by decide)⟩
    · skip
      exact retN X143 hx (t := .boolean) Bd.returns (by simp) (hb hby at_268) hr
    · show Q0 Z p1 p2 q3 h0 n0 _ T143.heap _
      rw [eh143]
      exact ⟨rfl, N143⟩
  · skip
    have go146 : Go p e below s₁ F0 T34 (mkF m 94 #[vi p1, vi p2, vj q3, .second, vi (3 : Int32), vi (p2.toInt16.toInt32), vr b2, .unset, .unset, .unset, .unset] []) := by rw [hcs37] at go36; exact go36
    have go147 : Go p e below s₁ F0 T34 (mkF m 100 #[vi p1, vi p2, vj q3, .second, vi (3 : Int32), vi (p2.toInt16.toInt32), vr b2, .unset, .unset, .unset, .unset] [(.int (p2.toInt16.toInt32)), (.int (3 : Int32)), (.ref b2)]) := by
      intro t kt
      refine go146 t ?_
      refine o_aload X34 hx (hb hby at_94) rfl rfl ?_
      refine o_iload X34 hx (hb hby at_96) rfl ?_
      refine o_iload X34 hx (hb hby at_98) rfl ?_
      exact kt
    obtain ⟨_, _, ⟨T148, L148, k148, n148⟩, -, X148, ⟨Lc148, hQ148, l148, y148, z148⟩, st148⟩ := Jvm.LawKit.callS X34 hx (y := y_0) hown (mvT hZ (own_w hw 1 rfl)) (mvT hZ (own_w hw 2 rfl)) (mvT hZ (own_w hw 3 rfl)) (mvT hZ (own_w hw 4 rfl)) (by decide) (backOf (W := 0) (rm1_3 l Z a0 hw [] b2 (p2.toInt16.toInt32) k2 ((q3.toInt32).toInt8.toInt32) (((q3 >>> ((8 : Int32) &&& 0x3f).toInt64).toInt32).toInt8.toInt32) (((q3 >>> ((16 : Int32) &&& 0x3f).toInt64).toInt32).toInt8.toInt32) (((q3 >>> ((24 : Int32) &&& 0x3f).toInt64).toInt32).toInt8.toInt32) (((q3 >>> ((32 : Int32) &&& 0x3f).toInt64).toInt32).toInt8.toInt32) (((q3 >>> ((40 : Int32) &&& 0x3f).toInt64).toInt32).toInt8.toInt32) (((q3 >>> ((48 : Int32) &&& 0x3f).toInt64).toInt32).toInt8.toInt32) (((q3 >>> ((56 : Int32) &&& 0x3f).toInt64).toInt32).toInt8.toInt32) h34 n0 Z35 V34 g_b2) hZ (own_w hw 4 rfl) (own_w hw 3 rfl) (by decide) (by decide)) (g := (mkF m 100 #[vi p1, vi p2, vj q3, .second, vi (3 : Int32), vi (p2.toInt16.toInt32), vr b2, .unset, .unset, .unset, .unset] [(.int (p2.toInt16.toInt32)), (.int (3 : Int32)), (.ref b2)])) rfl (by rw [hml]; rfl) (argsL := [(.ref b2), (.int (3 : Int32)), (.int (p2.toInt16.toInt32))]) (rest := []) (lenOf pd0_0 rfl) rfl (by show 2 * 0 + _ ≤ _; exact Nat.le_of_eq rfl) (hb hby at_100) (fun _ _ => ⟨rfl, e34, (by decide : 1 + 0 ≤ _), (by decide : 8 + 0 ≤ _)⟩)
    dsimp only [Pt.U, Pt.locs, Pt.cells, Pt.slots] at X148 l148 y148 z148 st148 hQ148
    subst l148 y148 z148
    obtain ⟨rfl, Nq148, Kc148, V_148⟩ := hQ148
    have N148 := Fr.app N34 Nq148
    have Z149 : n0 ≤ T148.heap.size := Nat.le_trans Z35 Kc148.1
    have go150 : Go p e below s₁ F0 T148 (mkF m 103 #[vi p1, vi p2, vj q3, .second, vi (3 : Int32), vi (p2.toInt16.toInt32), vr b2, .unset, .unset, .unset, .unset] []) := fun t k => go147 t (st148 t k)
    have go151 : Go p e below s₁ F0 T148 (mkF m 109 #[vi p1, vi p2, vj q3, .second, vi (3 : Int32), vi (p2.toInt16.toInt32), vr b2, .unset, .unset, .unset, .unset] [(.int (6 : Int32)), (.ref b2)]) := by
      intro t kt
      refine go150 t ?_
      refine o_aload X148 hx (hb hby at_103) rfl rfl ?_
      refine o_iconst X148 hx (hb hby at_105) (v := 2) rfl ?_
      refine o_iload X148 hx (hb hby at_106) rfl ?_
      refine o_imulE X148 hx (hb hby at_108) (v := 6) rfl ?_
      exact kt
    obtain ⟨cl152, Ar152, -, Sz152, Nn152, Hs152, -⟩ := id V_148
    have hin152 : ¬ ((6 : Int32) < 0 ∨ cl152.slots.size ≤ ((6 : Int32)).toNatClampNeg) := inb_of Sz152 ⟨by decide, by decide⟩
    have hat152 : cl152.slots[((6 : Int32)).toNatClampNeg]? = some (.int ((p2.toInt16.toInt32).toInt8.toInt32)) := Hs152.at hin152 rfl
    have go153 : Go p e below s₁ F0 T148 (mkF m 124 #[vi p1, vi p2, vj q3, .second, vi (3 : Int32), vi (p2.toInt16.toInt32), vr b2, vi (((p2.toInt16.toInt32).toInt8.toInt32) &&& (255 : Int32)), .unset, .unset, .unset] [(.int (7 : Int32)), (.ref b2)]) := by
      intro t kt
      refine go151 t ?_
      refine o_baload X148 hx hZ rfl Ar152 hin152 hat152 (hb hby at_109) ?_
      refine o_sipush X148 hx (hb hby at_110) (v := 255) rfl ?_
      refine o_iand X148 hx (hb hby at_113) ?_
      refine o_istore X148 hx (hb hby at_114) (L' := #[vi p1, vi p2, vj q3, .second, vi (3 : Int32), vi (p2.toInt16.toInt32), vr b2, vi (((p2.toInt16.toInt32).toInt8.toInt32) &&& (255 : Int32)), .unset, .unset, .unset]) rfl ?_
      refine o_aload X148 hx (hb hby at_116) rfl rfl ?_
      refine o_iconst X148 hx (hb hby at_118) (v := 2) rfl ?_
      refine o_iload X148 hx (hb hby at_119) rfl ?_
      refine o_imulE X148 hx (hb hby at_121) (v := 6) rfl ?_
      refine o_iconst X148 hx (hb hby at_122) (v := 1) rfl ?_
      refine o_iaddE X148 hx (hb hby at_123) (v := 7) rfl ?_
      exact kt
    obtain ⟨cl154, Ar154, -, Sz154, Nn154, Hs154, -⟩ := id V_148
    have hin154 : ¬ ((7 : Int32) < 0 ∨ cl154.slots.size ≤ ((7 : Int32)).toNatClampNeg) := inb_of Sz154 ⟨by decide, by decide⟩
    have hat154 : cl154.slots[((7 : Int32)).toNatClampNeg]? = some (.int (((p2.toInt16.toInt32) >>> ((8 : Int32) &&& 31)).toInt8.toInt32)) := Hs154.at hin154 rfl
    have go156 : Go p e below s₁ F0 T148 (mkF m 138 #[vi p1, vi p2, vj q3, .second, vi (3 : Int32), vi (p2.toInt16.toInt32), vr b2, vi (((p2.toInt16.toInt32).toInt8.toInt32) &&& (255 : Int32)), vi (((p2.toInt16.toInt32) >>> ((8 : Int32) &&& 31)).toInt8.toInt32), .unset, .unset] [(.int (p2.toInt16.toInt32)), (.int (((((p2.toInt16.toInt32) >>> ((8 : Int32) &&& 31)).toInt8.toInt32) * (256 : Int32)) + (((p2.toInt16.toInt32).toInt8.toInt32) &&& (255 : Int32))))]) := by
      intro t kt
      refine go153 t ?_
      refine o_baload X148 hx hZ rfl Ar154 hin154 hat154 (hb hby at_124) ?_
      refine o_istore X148 hx (hb hby at_125) (L' := #[vi p1, vi p2, vj q3, .second, vi (3 : Int32), vi (p2.toInt16.toInt32), vr b2, vi (((p2.toInt16.toInt32).toInt8.toInt32) &&& (255 : Int32)), vi (((p2.toInt16.toInt32) >>> ((8 : Int32) &&& 31)).toInt8.toInt32), .unset, .unset]) rfl ?_
      refine o_iload X148 hx (hb hby at_127) rfl ?_
      refine o_sipush X148 hx (hb hby at_129) (v := 256) rfl ?_
      refine o_imul X148 hx (hb hby at_132) ?_
      refine o_iload X148 hx (hb hby at_133) rfl ?_
      refine o_iadd X148 hx (hb hby at_135) ?_
      refine o_iload X148 hx (hb hby at_136) rfl ?_
      exact kt
    have hd155 : (((((p2.toInt16.toInt32) >>> ((8 : Int32) &&& 31)).toInt8.toInt32) * (256 : Int32)) + (((p2.toInt16.toInt32).toInt8.toInt32) &&& (255 : Int32))) = (p2.toInt16.toInt32) := own_law _
    have go157 : Go p e below s₁ F0 T148 (mkF m 154 #[vi p1, vi p2, vj q3, .second, vi (3 : Int32), vi (p2.toInt16.toInt32), vr b2, vi (((p2.toInt16.toInt32).toInt8.toInt32) &&& (255 : Int32)), vi (((p2.toInt16.toInt32) >>> ((8 : Int32) &&& 31)).toInt8.toInt32), vi (1 : Int32), .unset] [(.long q3), (.int (3 : Int32)), (.int (0 : Int32)), (.ref b2)]) := by
      intro t kt
      refine go156 t ?_
      refine o_icmpNo X148 hx (hb hby at_138) (teq hd155).2 ?_
      refine o_iconst X148 hx (hb hby at_141) (v := 1) rfl ?_
      refine o_goto X148 hx (hb hby at_142) (pc' := 146) rfl (by decide) ?_
      refine o_istore X148 hx (hb hby at_146) (L' := #[vi p1, vi p2, vj q3, .second, vi (3 : Int32), vi (p2.toInt16.toInt32), vr b2, vi (((p2.toInt16.toInt32).toInt8.toInt32) &&& (255 : Int32)), vi (((p2.toInt16.toInt32) >>> ((8 : Int32) &&& 31)).toInt8.toInt32), vi (1 : Int32), .unset]) rfl ?_
      refine o_aload X148 hx (hb hby at_148) rfl rfl ?_
      refine o_iconst X148 hx (hb hby at_150) (v := 0) rfl ?_
      refine o_iload X148 hx (hb hby at_151) rfl ?_
      refine o_lloadN X148 hx (hb hby at_153) rfl ?_
      exact kt
    obtain ⟨_, _, ⟨T158, L158, k158, n158⟩, -, X158, ⟨Lc158, hQ158, l158, y158, z158⟩, st158⟩ := Jvm.LawKit.callS X148 hx (y := y_1) hown (mvT hZ (own_w hw 5 rfl)) (mvT hZ (own_w hw 6 rfl)) (mvT hZ (own_w hw 7 rfl)) (mvT hZ (own_w hw 8 rfl)) (by decide) (backOf (W := 0) (rm2_3_0 l Z a0 hw [] b2 q3 k2 ((q3.toInt32).toInt8.toInt32) (((q3 >>> ((8 : Int32) &&& 0x3f).toInt64).toInt32).toInt8.toInt32) (((q3 >>> ((16 : Int32) &&& 0x3f).toInt64).toInt32).toInt8.toInt32) (((q3 >>> ((24 : Int32) &&& 0x3f).toInt64).toInt32).toInt8.toInt32) (((q3 >>> ((32 : Int32) &&& 0x3f).toInt64).toInt32).toInt8.toInt32) (((q3 >>> ((40 : Int32) &&& 0x3f).toInt64).toInt32).toInt8.toInt32) ((p2.toInt16.toInt32).toInt8.toInt32) (((p2.toInt16.toInt32) >>> ((8 : Int32) &&& 31)).toInt8.toInt32) (T148.heap) n0 Z149 V_148 (own_sh0 _)) hZ (own_w hw 8 rfl) (own_w hw 7 rfl) (by decide) (by decide)) (g := (mkF m 154 #[vi p1, vi p2, vj q3, .second, vi (3 : Int32), vi (p2.toInt16.toInt32), vr b2, vi (((p2.toInt16.toInt32).toInt8.toInt32) &&& (255 : Int32)), vi (((p2.toInt16.toInt32) >>> ((8 : Int32) &&& 31)).toInt8.toInt32), vi (1 : Int32), .unset] [(.long q3), (.int (3 : Int32)), (.int (0 : Int32)), (.ref b2)])) rfl (by rw [hml]; rfl) (argsL := [(.ref b2), (.int (0 : Int32)), (.int (3 : Int32)), (.long q3)]) (rest := []) (lenOf pd0_1 rfl) rfl (by show 2 * 0 + _ ≤ _; exact Nat.le_of_eq rfl) (hb hby at_154) (fun _ _ => ⟨rfl, rfl, (by decide : 1 + 0 ≤ _), (by decide : 8 + 0 ≤ _)⟩)
    dsimp only [Pt.U, Pt.locs, Pt.cells, Pt.slots] at X158 l158 y158 z158 st158 hQ158
    subst l158 y158 z158
    obtain ⟨rfl, Nq158, eh158⟩ := hQ158
    have N158 := Fr.app N148 Nq158
    have go159 : Go p e below s₁ F0 T158 (mkF m 157 #[vi p1, vi p2, vj q3, .second, vi (3 : Int32), vi (p2.toInt16.toInt32), vr b2, vi (((p2.toInt16.toInt32).toInt8.toInt32) &&& (255 : Int32)), vi (((p2.toInt16.toInt32) >>> ((8 : Int32) &&& 31)).toInt8.toInt32), vi (1 : Int32), .unset] [(.int (1 : Int32))]) := fun t k => go157 t (st158 t k)
    have go160 : Go p e below s₁ F0 T158 (mkF m 166 #[vi p1, vi p2, vj q3, .second, vi (3 : Int32), vi (p2.toInt16.toInt32), vr b2, vi (((p2.toInt16.toInt32).toInt8.toInt32) &&& (255 : Int32)), vi (((p2.toInt16.toInt32) >>> ((8 : Int32) &&& 31)).toInt8.toInt32), vi (1 : Int32), .unset] [(.long q3), (.int (3 : Int32)), (.int (1 : Int32)), (.ref b2)]) := by
      intro t kt
      refine go159 t ?_
      refine o_ifNo X158 hx (hb hby at_157) ((if0 _ _).trans (feq (by decide : ¬ ((1 : Int32) = (0 : Int32)))).1) ?_
      refine o_aload X158 hx (hb hby at_160) rfl rfl ?_
      refine o_iconst X158 hx (hb hby at_162) (v := 1) rfl ?_
      refine o_iload X158 hx (hb hby at_163) rfl ?_
      refine o_lloadN X158 hx (hb hby at_165) rfl ?_
      exact kt
    obtain ⟨_, _, ⟨T161, L161, k161, n161⟩, -, X161, ⟨Lc161, hQ161, l161, y161, z161⟩, st161⟩ := Jvm.LawKit.callS X158 hx (y := y_1) hown (mvT hZ (own_w hw 5 rfl)) (mvT hZ (own_w hw 6 rfl)) (mvT hZ (own_w hw 7 rfl)) (mvT hZ (own_w hw 8 rfl)) (by decide) (backOf (W := 0) (rm2_3_1 l Z a0 hw [] b2 q3 k2 ((q3.toInt32).toInt8.toInt32) (((q3 >>> ((8 : Int32) &&& 0x3f).toInt64).toInt32).toInt8.toInt32) (((q3 >>> ((16 : Int32) &&& 0x3f).toInt64).toInt32).toInt8.toInt32) (((q3 >>> ((24 : Int32) &&& 0x3f).toInt64).toInt32).toInt8.toInt32) (((q3 >>> ((32 : Int32) &&& 0x3f).toInt64).toInt32).toInt8.toInt32) (((q3 >>> ((40 : Int32) &&& 0x3f).toInt64).toInt32).toInt8.toInt32) ((p2.toInt16.toInt32).toInt8.toInt32) (((p2.toInt16.toInt32) >>> ((8 : Int32) &&& 31)).toInt8.toInt32) (T148.heap) n0 Z149 V_148 rfl) hZ (own_w hw 8 rfl) (own_w hw 7 rfl) (by decide) (by decide)) (g := (mkF m 166 #[vi p1, vi p2, vj q3, .second, vi (3 : Int32), vi (p2.toInt16.toInt32), vr b2, vi (((p2.toInt16.toInt32).toInt8.toInt32) &&& (255 : Int32)), vi (((p2.toInt16.toInt32) >>> ((8 : Int32) &&& 31)).toInt8.toInt32), vi (1 : Int32), .unset] [(.long q3), (.int (3 : Int32)), (.int (1 : Int32)), (.ref b2)])) rfl (by rw [hml]; rfl) (argsL := [(.ref b2), (.int (1 : Int32)), (.int (3 : Int32)), (.long q3)]) (rest := []) (lenOf pd0_1 rfl) rfl (by show 2 * 0 + _ ≤ _; exact Nat.le_of_eq rfl) (hb hby at_166) (fun _ _ => ⟨rfl, eh158, (by decide : 1 + 0 ≤ _), (by decide : 8 + 0 ≤ _)⟩)
    dsimp only [Pt.U, Pt.locs, Pt.cells, Pt.slots] at X161 l161 y161 z161 st161 hQ161
    subst l161 y161 z161
    obtain ⟨rfl, Nq161, eh161⟩ := hQ161
    have N161 := Fr.app N158 Nq161
    have go162 : Go p e below s₁ F0 T161 (mkF m 169 #[vi p1, vi p2, vj q3, .second, vi (3 : Int32), vi (p2.toInt16.toInt32), vr b2, vi (((p2.toInt16.toInt32).toInt8.toInt32) &&& (255 : Int32)), vi (((p2.toInt16.toInt32) >>> ((8 : Int32) &&& 31)).toInt8.toInt32), vi (1 : Int32), .unset] [(.int (1 : Int32))]) := fun t k => go160 t (st161 t k)
    have go163 : Go p e below s₁ F0 T161 (mkF m 178 #[vi p1, vi p2, vj q3, .second, vi (3 : Int32), vi (p2.toInt16.toInt32), vr b2, vi (((p2.toInt16.toInt32).toInt8.toInt32) &&& (255 : Int32)), vi (((p2.toInt16.toInt32) >>> ((8 : Int32) &&& 31)).toInt8.toInt32), vi (1 : Int32), .unset] [(.long q3), (.int (3 : Int32)), (.int (2 : Int32)), (.ref b2)]) := by
      intro t kt
      refine go162 t ?_
      refine o_ifNo X161 hx (hb hby at_169) ((if0 _ _).trans (feq (by decide : ¬ ((1 : Int32) = (0 : Int32)))).1) ?_
      refine o_aload X161 hx (hb hby at_172) rfl rfl ?_
      refine o_iconst X161 hx (hb hby at_174) (v := 2) rfl ?_
      refine o_iload X161 hx (hb hby at_175) rfl ?_
      refine o_lloadN X161 hx (hb hby at_177) rfl ?_
      exact kt
    obtain ⟨_, _, ⟨T164, L164, k164, n164⟩, -, X164, ⟨Lc164, hQ164, l164, y164, z164⟩, st164⟩ := Jvm.LawKit.callS X161 hx (y := y_1) hown (mvT hZ (own_w hw 5 rfl)) (mvT hZ (own_w hw 6 rfl)) (mvT hZ (own_w hw 7 rfl)) (mvT hZ (own_w hw 8 rfl)) (by decide) (backOf (W := 0) (rm2_3_2 l Z a0 hw [] b2 q3 k2 ((q3.toInt32).toInt8.toInt32) (((q3 >>> ((8 : Int32) &&& 0x3f).toInt64).toInt32).toInt8.toInt32) (((q3 >>> ((16 : Int32) &&& 0x3f).toInt64).toInt32).toInt8.toInt32) (((q3 >>> ((24 : Int32) &&& 0x3f).toInt64).toInt32).toInt8.toInt32) (((q3 >>> ((32 : Int32) &&& 0x3f).toInt64).toInt32).toInt8.toInt32) (((q3 >>> ((40 : Int32) &&& 0x3f).toInt64).toInt32).toInt8.toInt32) ((p2.toInt16.toInt32).toInt8.toInt32) (((p2.toInt16.toInt32) >>> ((8 : Int32) &&& 31)).toInt8.toInt32) (T148.heap) n0 Z149 V_148 rfl) hZ (own_w hw 8 rfl) (own_w hw 7 rfl) (by decide) (by decide)) (g := (mkF m 178 #[vi p1, vi p2, vj q3, .second, vi (3 : Int32), vi (p2.toInt16.toInt32), vr b2, vi (((p2.toInt16.toInt32).toInt8.toInt32) &&& (255 : Int32)), vi (((p2.toInt16.toInt32) >>> ((8 : Int32) &&& 31)).toInt8.toInt32), vi (1 : Int32), .unset] [(.long q3), (.int (3 : Int32)), (.int (2 : Int32)), (.ref b2)])) rfl (by rw [hml]; rfl) (argsL := [(.ref b2), (.int (2 : Int32)), (.int (3 : Int32)), (.long q3)]) (rest := []) (lenOf pd0_1 rfl) rfl (by show 2 * 0 + _ ≤ _; exact Nat.le_of_eq rfl) (hb hby at_178) (fun _ _ => ⟨rfl, eh161, (by decide : 1 + 0 ≤ _), (by decide : 8 + 0 ≤ _)⟩)
    dsimp only [Pt.U, Pt.locs, Pt.cells, Pt.slots] at X164 l164 y164 z164 st164 hQ164
    subst l164 y164 z164
    obtain ⟨rfl, Nq164, eh164⟩ := hQ164
    have N164 := Fr.app N161 Nq164
    have go165 : Go p e below s₁ F0 T164 (mkF m 181 #[vi p1, vi p2, vj q3, .second, vi (3 : Int32), vi (p2.toInt16.toInt32), vr b2, vi (((p2.toInt16.toInt32).toInt8.toInt32) &&& (255 : Int32)), vi (((p2.toInt16.toInt32) >>> ((8 : Int32) &&& 31)).toInt8.toInt32), vi (1 : Int32), .unset] [(.int (1 : Int32))]) := fun t k => go163 t (st164 t k)
    have go166 : Go p e below s₁ F0 T164 (mkF m 190 #[vi p1, vi p2, vj q3, .second, vi (3 : Int32), vi (p2.toInt16.toInt32), vr b2, vi (((p2.toInt16.toInt32).toInt8.toInt32) &&& (255 : Int32)), vi (((p2.toInt16.toInt32) >>> ((8 : Int32) &&& 31)).toInt8.toInt32), vi (1 : Int32), .unset] [(.long q3), (.int (3 : Int32)), (.int (3 : Int32)), (.ref b2)]) := by
      intro t kt
      refine go165 t ?_
      refine o_ifNo X164 hx (hb hby at_181) ((if0 _ _).trans (feq (by decide : ¬ ((1 : Int32) = (0 : Int32)))).1) ?_
      refine o_aload X164 hx (hb hby at_184) rfl rfl ?_
      refine o_iconst X164 hx (hb hby at_186) (v := 3) rfl ?_
      refine o_iload X164 hx (hb hby at_187) rfl ?_
      refine o_lloadN X164 hx (hb hby at_189) rfl ?_
      exact kt
    obtain ⟨_, _, ⟨T167, L167, k167, n167⟩, -, X167, ⟨Lc167, hQ167, l167, y167, z167⟩, st167⟩ := Jvm.LawKit.callS X164 hx (y := y_1) hown (mvT hZ (own_w hw 5 rfl)) (mvT hZ (own_w hw 6 rfl)) (mvT hZ (own_w hw 7 rfl)) (mvT hZ (own_w hw 8 rfl)) (by decide) (backOf (W := 0) (rm2_3_3 l Z a0 hw [] b2 q3 k2 ((q3.toInt32).toInt8.toInt32) (((q3 >>> ((8 : Int32) &&& 0x3f).toInt64).toInt32).toInt8.toInt32) (((q3 >>> ((16 : Int32) &&& 0x3f).toInt64).toInt32).toInt8.toInt32) (((q3 >>> ((24 : Int32) &&& 0x3f).toInt64).toInt32).toInt8.toInt32) (((q3 >>> ((32 : Int32) &&& 0x3f).toInt64).toInt32).toInt8.toInt32) (((q3 >>> ((40 : Int32) &&& 0x3f).toInt64).toInt32).toInt8.toInt32) ((p2.toInt16.toInt32).toInt8.toInt32) (((p2.toInt16.toInt32) >>> ((8 : Int32) &&& 31)).toInt8.toInt32) (T148.heap) n0 Z149 V_148 rfl) hZ (own_w hw 8 rfl) (own_w hw 7 rfl) (by decide) (by decide)) (g := (mkF m 190 #[vi p1, vi p2, vj q3, .second, vi (3 : Int32), vi (p2.toInt16.toInt32), vr b2, vi (((p2.toInt16.toInt32).toInt8.toInt32) &&& (255 : Int32)), vi (((p2.toInt16.toInt32) >>> ((8 : Int32) &&& 31)).toInt8.toInt32), vi (1 : Int32), .unset] [(.long q3), (.int (3 : Int32)), (.int (3 : Int32)), (.ref b2)])) rfl (by rw [hml]; rfl) (argsL := [(.ref b2), (.int (3 : Int32)), (.int (3 : Int32)), (.long q3)]) (rest := []) (lenOf pd0_1 rfl) rfl (by show 2 * 0 + _ ≤ _; exact Nat.le_of_eq rfl) (hb hby at_190) (fun _ _ => ⟨rfl, eh164, (by decide : 1 + 0 ≤ _), (by decide : 8 + 0 ≤ _)⟩)
    dsimp only [Pt.U, Pt.locs, Pt.cells, Pt.slots] at X167 l167 y167 z167 st167 hQ167
    subst l167 y167 z167
    obtain ⟨rfl, Nq167, eh167⟩ := hQ167
    have N167 := Fr.app N164 Nq167
    have go168 : Go p e below s₁ F0 T167 (mkF m 193 #[vi p1, vi p2, vj q3, .second, vi (3 : Int32), vi (p2.toInt16.toInt32), vr b2, vi (((p2.toInt16.toInt32).toInt8.toInt32) &&& (255 : Int32)), vi (((p2.toInt16.toInt32) >>> ((8 : Int32) &&& 31)).toInt8.toInt32), vi (1 : Int32), .unset] [(.int (1 : Int32))]) := fun t k => go166 t (st167 t k)
    have go169 : Go p e below s₁ F0 T167 (mkF m 202 #[vi p1, vi p2, vj q3, .second, vi (3 : Int32), vi (p2.toInt16.toInt32), vr b2, vi (((p2.toInt16.toInt32).toInt8.toInt32) &&& (255 : Int32)), vi (((p2.toInt16.toInt32) >>> ((8 : Int32) &&& 31)).toInt8.toInt32), vi (1 : Int32), .unset] [(.long q3), (.int (3 : Int32)), (.int (4 : Int32)), (.ref b2)]) := by
      intro t kt
      refine go168 t ?_
      refine o_ifNo X167 hx (hb hby at_193) ((if0 _ _).trans (feq (by decide : ¬ ((1 : Int32) = (0 : Int32)))).1) ?_
      refine o_aload X167 hx (hb hby at_196) rfl rfl ?_
      refine o_iconst X167 hx (hb hby at_198) (v := 4) rfl ?_
      refine o_iload X167 hx (hb hby at_199) rfl ?_
      refine o_lloadN X167 hx (hb hby at_201) rfl ?_
      exact kt
    obtain ⟨_, _, ⟨T170, L170, k170, n170⟩, -, X170, ⟨Lc170, hQ170, l170, y170, z170⟩, st170⟩ := Jvm.LawKit.callS X167 hx (y := y_1) hown (mvT hZ (own_w hw 5 rfl)) (mvT hZ (own_w hw 6 rfl)) (mvT hZ (own_w hw 7 rfl)) (mvT hZ (own_w hw 8 rfl)) (by decide) (backOf (W := 0) (rm2_3_4 l Z a0 hw [] b2 q3 k2 ((q3.toInt32).toInt8.toInt32) (((q3 >>> ((8 : Int32) &&& 0x3f).toInt64).toInt32).toInt8.toInt32) (((q3 >>> ((16 : Int32) &&& 0x3f).toInt64).toInt32).toInt8.toInt32) (((q3 >>> ((24 : Int32) &&& 0x3f).toInt64).toInt32).toInt8.toInt32) (((q3 >>> ((32 : Int32) &&& 0x3f).toInt64).toInt32).toInt8.toInt32) (((q3 >>> ((40 : Int32) &&& 0x3f).toInt64).toInt32).toInt8.toInt32) ((p2.toInt16.toInt32).toInt8.toInt32) (((p2.toInt16.toInt32) >>> ((8 : Int32) &&& 31)).toInt8.toInt32) (T148.heap) n0 Z149 V_148 rfl) hZ (own_w hw 8 rfl) (own_w hw 7 rfl) (by decide) (by decide)) (g := (mkF m 202 #[vi p1, vi p2, vj q3, .second, vi (3 : Int32), vi (p2.toInt16.toInt32), vr b2, vi (((p2.toInt16.toInt32).toInt8.toInt32) &&& (255 : Int32)), vi (((p2.toInt16.toInt32) >>> ((8 : Int32) &&& 31)).toInt8.toInt32), vi (1 : Int32), .unset] [(.long q3), (.int (3 : Int32)), (.int (4 : Int32)), (.ref b2)])) rfl (by rw [hml]; rfl) (argsL := [(.ref b2), (.int (4 : Int32)), (.int (3 : Int32)), (.long q3)]) (rest := []) (lenOf pd0_1 rfl) rfl (by show 2 * 0 + _ ≤ _; exact Nat.le_of_eq rfl) (hb hby at_202) (fun _ _ => ⟨rfl, eh167, (by decide : 1 + 0 ≤ _), (by decide : 8 + 0 ≤ _)⟩)
    dsimp only [Pt.U, Pt.locs, Pt.cells, Pt.slots] at X170 l170 y170 z170 st170 hQ170
    subst l170 y170 z170
    obtain ⟨rfl, Nq170, eh170⟩ := hQ170
    have N170 := Fr.app N167 Nq170
    have go171 : Go p e below s₁ F0 T170 (mkF m 205 #[vi p1, vi p2, vj q3, .second, vi (3 : Int32), vi (p2.toInt16.toInt32), vr b2, vi (((p2.toInt16.toInt32).toInt8.toInt32) &&& (255 : Int32)), vi (((p2.toInt16.toInt32) >>> ((8 : Int32) &&& 31)).toInt8.toInt32), vi (1 : Int32), .unset] [(.int (1 : Int32))]) := fun t k => go169 t (st170 t k)
    have go172 : Go p e below s₁ F0 T170 (mkF m 214 #[vi p1, vi p2, vj q3, .second, vi (3 : Int32), vi (p2.toInt16.toInt32), vr b2, vi (((p2.toInt16.toInt32).toInt8.toInt32) &&& (255 : Int32)), vi (((p2.toInt16.toInt32) >>> ((8 : Int32) &&& 31)).toInt8.toInt32), vi (1 : Int32), .unset] [(.long q3), (.int (3 : Int32)), (.int (5 : Int32)), (.ref b2)]) := by
      intro t kt
      refine go171 t ?_
      refine o_ifNo X170 hx (hb hby at_205) ((if0 _ _).trans (feq (by decide : ¬ ((1 : Int32) = (0 : Int32)))).1) ?_
      refine o_aload X170 hx (hb hby at_208) rfl rfl ?_
      refine o_iconst X170 hx (hb hby at_210) (v := 5) rfl ?_
      refine o_iload X170 hx (hb hby at_211) rfl ?_
      refine o_lloadN X170 hx (hb hby at_213) rfl ?_
      exact kt
    obtain ⟨_, _, ⟨T173, L173, k173, n173⟩, -, X173, ⟨Lc173, hQ173, l173, y173, z173⟩, st173⟩ := Jvm.LawKit.callS X170 hx (y := y_1) hown (mvT hZ (own_w hw 5 rfl)) (mvT hZ (own_w hw 6 rfl)) (mvT hZ (own_w hw 7 rfl)) (mvT hZ (own_w hw 8 rfl)) (by decide) (backOf (W := 0) (rm2_3_5 l Z a0 hw [] b2 q3 k2 ((q3.toInt32).toInt8.toInt32) (((q3 >>> ((8 : Int32) &&& 0x3f).toInt64).toInt32).toInt8.toInt32) (((q3 >>> ((16 : Int32) &&& 0x3f).toInt64).toInt32).toInt8.toInt32) (((q3 >>> ((24 : Int32) &&& 0x3f).toInt64).toInt32).toInt8.toInt32) (((q3 >>> ((32 : Int32) &&& 0x3f).toInt64).toInt32).toInt8.toInt32) (((q3 >>> ((40 : Int32) &&& 0x3f).toInt64).toInt32).toInt8.toInt32) ((p2.toInt16.toInt32).toInt8.toInt32) (((p2.toInt16.toInt32) >>> ((8 : Int32) &&& 31)).toInt8.toInt32) (T148.heap) n0 Z149 V_148 rfl) hZ (own_w hw 8 rfl) (own_w hw 7 rfl) (by decide) (by decide)) (g := (mkF m 214 #[vi p1, vi p2, vj q3, .second, vi (3 : Int32), vi (p2.toInt16.toInt32), vr b2, vi (((p2.toInt16.toInt32).toInt8.toInt32) &&& (255 : Int32)), vi (((p2.toInt16.toInt32) >>> ((8 : Int32) &&& 31)).toInt8.toInt32), vi (1 : Int32), .unset] [(.long q3), (.int (3 : Int32)), (.int (5 : Int32)), (.ref b2)])) rfl (by rw [hml]; rfl) (argsL := [(.ref b2), (.int (5 : Int32)), (.int (3 : Int32)), (.long q3)]) (rest := []) (lenOf pd0_1 rfl) rfl (by show 2 * 0 + _ ≤ _; exact Nat.le_of_eq rfl) (hb hby at_214) (fun _ _ => ⟨rfl, eh170, (by decide : 1 + 0 ≤ _), (by decide : 8 + 0 ≤ _)⟩)
    dsimp only [Pt.U, Pt.locs, Pt.cells, Pt.slots] at X173 l173 y173 z173 st173 hQ173
    subst l173 y173 z173
    obtain ⟨rfl, Nq173, eh173⟩ := hQ173
    have N173 := Fr.app N170 Nq173
    have go174 : Go p e below s₁ F0 T173 (mkF m 217 #[vi p1, vi p2, vj q3, .second, vi (3 : Int32), vi (p2.toInt16.toInt32), vr b2, vi (((p2.toInt16.toInt32).toInt8.toInt32) &&& (255 : Int32)), vi (((p2.toInt16.toInt32) >>> ((8 : Int32) &&& 31)).toInt8.toInt32), vi (1 : Int32), .unset] [(.int (1 : Int32))]) := fun t k => go172 t (st173 t k)
    have go175 : Go p e below s₁ F0 T173 (mkF m 227 #[vi p1, vi p2, vj q3, .second, vi (3 : Int32), vi (p2.toInt16.toInt32), vr b2, vi (((p2.toInt16.toInt32).toInt8.toInt32) &&& (255 : Int32)), vi (((p2.toInt16.toInt32) >>> ((8 : Int32) &&& 31)).toInt8.toInt32), vi (1 : Int32), .unset] [(.long q3), (.int (3 : Int32)), (.int (6 : Int32)), (.ref b2)]) := by
      intro t kt
      refine go174 t ?_
      refine o_ifNo X173 hx (hb hby at_217) ((if0 _ _).trans (feq (by decide : ¬ ((1 : Int32) = (0 : Int32)))).1) ?_
      refine o_aload X173 hx (hb hby at_220) rfl rfl ?_
      refine o_bipush X173 hx (hb hby at_222) (v := 6) rfl ?_
      refine o_iload X173 hx (hb hby at_224) rfl ?_
      refine o_lloadN X173 hx (hb hby at_226) rfl ?_
      exact kt
    obtain ⟨_, _, ⟨T176, L176, k176, n176⟩, -, X176, ⟨Lc176, hQ176, l176, y176, z176⟩, st176⟩ := Jvm.LawKit.callS X173 hx (y := y_1) hown (mvT hZ (own_w hw 5 rfl)) (mvT hZ (own_w hw 6 rfl)) (mvT hZ (own_w hw 7 rfl)) (mvT hZ (own_w hw 8 rfl)) (by decide) (backOf (W := 0) (rm2_3_6 l Z a0 hw [] b2 q3 k2 ((q3.toInt32).toInt8.toInt32) (((q3 >>> ((8 : Int32) &&& 0x3f).toInt64).toInt32).toInt8.toInt32) (((q3 >>> ((16 : Int32) &&& 0x3f).toInt64).toInt32).toInt8.toInt32) (((q3 >>> ((24 : Int32) &&& 0x3f).toInt64).toInt32).toInt8.toInt32) (((q3 >>> ((32 : Int32) &&& 0x3f).toInt64).toInt32).toInt8.toInt32) (((q3 >>> ((40 : Int32) &&& 0x3f).toInt64).toInt32).toInt8.toInt32) ((p2.toInt16.toInt32).toInt8.toInt32) (((p2.toInt16.toInt32) >>> ((8 : Int32) &&& 31)).toInt8.toInt32) (T148.heap) n0 Z149 V_148) hZ (own_w hw 8 rfl) (own_w hw 7 rfl) (by decide) (by decide)) (g := (mkF m 227 #[vi p1, vi p2, vj q3, .second, vi (3 : Int32), vi (p2.toInt16.toInt32), vr b2, vi (((p2.toInt16.toInt32).toInt8.toInt32) &&& (255 : Int32)), vi (((p2.toInt16.toInt32) >>> ((8 : Int32) &&& 31)).toInt8.toInt32), vi (1 : Int32), .unset] [(.long q3), (.int (3 : Int32)), (.int (6 : Int32)), (.ref b2)])) rfl (by rw [hml]; rfl) (argsL := [(.ref b2), (.int (6 : Int32)), (.int (3 : Int32)), (.long q3)]) (rest := []) (lenOf pd0_1 rfl) rfl (by show 2 * 0 + _ ≤ _; exact Nat.le_of_eq rfl) (hb hby at_227) (fun _ _ => ⟨rfl, eh173, (by decide : 1 + 0 ≤ _), (by decide : 8 + 0 ≤ _)⟩)
    dsimp only [Pt.U, Pt.locs, Pt.cells, Pt.slots] at X176 l176 y176 z176 st176 hQ176
    subst l176 y176 z176
    obtain ⟨rfl, Nq176, eh176⟩ := hQ176
    have N176 := Fr.app N173 Nq176
    have go177 : Go p e below s₁ F0 T176 (mkF m 230 #[vi p1, vi p2, vj q3, .second, vi (3 : Int32), vi (p2.toInt16.toInt32), vr b2, vi (((p2.toInt16.toInt32).toInt8.toInt32) &&& (255 : Int32)), vi (((p2.toInt16.toInt32) >>> ((8 : Int32) &&& 31)).toInt8.toInt32), vi (1 : Int32), .unset] [(.int (1 : Int32))]) := fun t k => go175 t (st176 t k)
    have go178 : Go p e below s₁ F0 T176 (mkF m 240 #[vi p1, vi p2, vj q3, .second, vi (3 : Int32), vi (p2.toInt16.toInt32), vr b2, vi (((p2.toInt16.toInt32).toInt8.toInt32) &&& (255 : Int32)), vi (((p2.toInt16.toInt32) >>> ((8 : Int32) &&& 31)).toInt8.toInt32), vi (1 : Int32), .unset] [(.long q3), (.int (3 : Int32)), (.int (7 : Int32)), (.ref b2)]) := by
      intro t kt
      refine go177 t ?_
      refine o_ifNo X176 hx (hb hby at_230) ((if0 _ _).trans (feq (by decide : ¬ ((1 : Int32) = (0 : Int32)))).1) ?_
      refine o_aload X176 hx (hb hby at_233) rfl rfl ?_
      refine o_bipush X176 hx (hb hby at_235) (v := 7) rfl ?_
      refine o_iload X176 hx (hb hby at_237) rfl ?_
      refine o_lloadN X176 hx (hb hby at_239) rfl ?_
      exact kt
    obtain ⟨_, _, ⟨T179, L179, k179, n179⟩, -, X179, ⟨Lc179, hQ179, l179, y179, z179⟩, st179⟩ := Jvm.LawKit.callS X176 hx (y := y_1) hown (mvT hZ (own_w hw 5 rfl)) (mvT hZ (own_w hw 6 rfl)) (mvT hZ (own_w hw 7 rfl)) (mvT hZ (own_w hw 8 rfl)) (by decide) (backOf (W := 0) (rm2_3_7 l Z a0 hw [] b2 q3 k2 ((q3.toInt32).toInt8.toInt32) (((q3 >>> ((8 : Int32) &&& 0x3f).toInt64).toInt32).toInt8.toInt32) (((q3 >>> ((16 : Int32) &&& 0x3f).toInt64).toInt32).toInt8.toInt32) (((q3 >>> ((24 : Int32) &&& 0x3f).toInt64).toInt32).toInt8.toInt32) (((q3 >>> ((32 : Int32) &&& 0x3f).toInt64).toInt32).toInt8.toInt32) (((q3 >>> ((40 : Int32) &&& 0x3f).toInt64).toInt32).toInt8.toInt32) ((p2.toInt16.toInt32).toInt8.toInt32) (((p2.toInt16.toInt32) >>> ((8 : Int32) &&& 31)).toInt8.toInt32) (T148.heap) n0 Z149 V_148) hZ (own_w hw 8 rfl) (own_w hw 7 rfl) (by decide) (by decide)) (g := (mkF m 240 #[vi p1, vi p2, vj q3, .second, vi (3 : Int32), vi (p2.toInt16.toInt32), vr b2, vi (((p2.toInt16.toInt32).toInt8.toInt32) &&& (255 : Int32)), vi (((p2.toInt16.toInt32) >>> ((8 : Int32) &&& 31)).toInt8.toInt32), vi (1 : Int32), .unset] [(.long q3), (.int (3 : Int32)), (.int (7 : Int32)), (.ref b2)])) rfl (by rw [hml]; rfl) (argsL := [(.ref b2), (.int (7 : Int32)), (.int (3 : Int32)), (.long q3)]) (rest := []) (lenOf pd0_1 rfl) rfl (by show 2 * 0 + _ ≤ _; exact Nat.le_of_eq rfl) (hb hby at_240) (fun _ _ => ⟨rfl, eh176, (by decide : 1 + 0 ≤ _), (by decide : 8 + 0 ≤ _)⟩)
    dsimp only [Pt.U, Pt.locs, Pt.cells, Pt.slots] at X179 l179 y179 z179 st179 hQ179
    subst l179 y179 z179
    obtain ⟨rfl, Nq179, eh179⟩ := hQ179
    have N179 := Fr.app N176 Nq179
    have go180 : Go p e below s₁ F0 T179 (mkF m 243 #[vi p1, vi p2, vj q3, .second, vi (3 : Int32), vi (p2.toInt16.toInt32), vr b2, vi (((p2.toInt16.toInt32).toInt8.toInt32) &&& (255 : Int32)), vi (((p2.toInt16.toInt32) >>> ((8 : Int32) &&& 31)).toInt8.toInt32), vi (1 : Int32), .unset] [(.int (1 : Int32))]) := fun t k => go178 t (st179 t k)
    have go181 : Go p e below s₁ F0 T179 (mkF m 268 #[vi p1, vi p2, vj q3, .second, vi (3 : Int32), vi (p2.toInt16.toInt32), vr b2, vi (((p2.toInt16.toInt32).toInt8.toInt32) &&& (255 : Int32)), vi (((p2.toInt16.toInt32) >>> ((8 : Int32) &&& 31)).toInt8.toInt32), vi (1 : Int32), vi (1 : Int32)] [(.int (1 : Int32))]) := by
      intro t kt
      refine go180 t ?_
      refine o_ifNo X179 hx (hb hby at_243) ((if0 _ _).trans (feq (by decide : ¬ ((1 : Int32) = (0 : Int32)))).1) ?_
      refine o_iconst X179 hx (hb hby at_246) (v := 1) rfl ?_
      refine o_goto X179 hx (hb hby at_247) (pc' := 251) rfl (by decide) ?_
      refine o_istore X179 hx (hb hby at_251) (L' := #[vi p1, vi p2, vj q3, .second, vi (3 : Int32), vi (p2.toInt16.toInt32), vr b2, vi (((p2.toInt16.toInt32).toInt8.toInt32) &&& (255 : Int32)), vi (((p2.toInt16.toInt32) >>> ((8 : Int32) &&& 31)).toInt8.toInt32), vi (1 : Int32), vi (1 : Int32)]) rfl ?_
      refine o_iload X179 hx (hb hby at_253) rfl ?_
      refine o_ifNo X179 hx (hb hby at_255) ((if0 _ _).trans (feq (by decide : ¬ ((1 : Int32) = (0 : Int32)))).1) ?_
      refine o_iload X179 hx (hb hby at_258) rfl ?_
      refine o_ifNo X179 hx (hb hby at_260) ((if0 _ _).trans (feq (by decide : ¬ ((1 : Int32) = (0 : Int32)))).1) ?_
      refine o_iconst X179 hx (hb hby at_263) (v := 1) rfl ?_
      refine o_goto X179 hx (hb hby at_264) (pc' := 268) rfl (by decide) ?_
      exact kt
    obtain ⟨fs, hr, hrun, hended, hW, hsame⟩ := X179.leave (v := some (.int (1 : Int32))) (fun h => by rw [Bd.returns] at h; cases h)
    refine ⟨_, _, pre0 _ (go181 _ ?_), hrun, hended, _, _, rfl, ?_, ⟨_, rfl⟩, hW, hsame.mono (by decide) (by decide)⟩
    · skip
      exact retN X179 hx (t := .boolean) Bd.returns (by simp) (hb hby at_268) hr
    · show Q0 Z p1 p2 q3 h0 n0 _ T179.heap _
      rw [eh179]
      exact ⟨rfl, N179⟩

set_option maxRecDepth 65536 in
set_option maxHeartbeats 40000000 in
theorem comes_1 {Post : Tables → Env → Array Value → State → Outcome → State → Prop} (hpost : ∀ tb e args s v u, (limb_1_1.after args s (.returned v) u = true ∧ limb_1_2.after args s (.returned v) u = true ∧ True) → FrameEnd s (.returned v) u (Jvm.fieldLocs frame_1_writes args s ++ Jvm.arrayLocs frame_1_arrays args s ++ Jvm.staticLocs frame_1_statics s) 16 128 → Post tb e args s (.returned v) u) :
    ArmFor flags0 classFile x code maxLocals ret World_1 tables_1 room_1 Calls_1 rest_1 Pre_1 Post := by
  intro l hfl _ _ p e ha hc hk s m args below hf hA hF happ hP
  obtain ⟨hcalls, hrest, hpre⟩ := hP
  obtain ⟨-, -, -, hnamed, -, -, -, hat⟩ := (Spec.applies_iff hf).mp happ
  obtain ⟨hg, hn⟩ := and_e (Cond.before_iff.mp (show (Jvm.Cond.and given_1 narrow_1).before args s = true from hpre))
  obtain ⟨g1, g2⟩ := and_e hg
  obtain ⟨g3, g4⟩ := and_e g2
  obtain ⟨g5, g6⟩ := and_e g4
  obtain ⟨w0, w1, w2, rfl⟩ : ∃ w0 w1 w2 : Value, args = #[w0, w1, w2] := by
    have hs : args.size = 3 := by simpa [Cond.value, given_1] using g1
    obtain ⟨L⟩ := args
    match L, hs with
    | [w0, w1, w2], _ => exact ⟨w0, w1, w2, rfl⟩
  have hw := fun d (hd : d ∈ tables_1) => atoms_spec (ws := Jvm.Cond.code x code maxLocals ret :: tables_1) hat d (List.mem_cons_of_mem _ hd)
  have hfit : Fit s := fun {y c} hc i hi => by
    obtain ⟨ha, rfl⟩ := Array.getElem?_eq_some_iff.mp hc
    have q := List.all_eq_true.mp ((Array.all_eq_true_iff_forall_mem.mp hF) _ (Array.getElem_mem ha)) i (List.mem_range.mpr hi)
    simpa [Array.getElem?_eq_getElem hi] using q
  obtain ⟨i0, ei0⟩ := is_v g3
  obtain rfl : w0 = (.int i0) := Option.some.inj ei0
  obtain ⟨i1, ei1⟩ := is_v g5
  obtain rfl : w1 = (.int i1) := Option.some.inj ei1
  obtain ⟨i2, ei2⟩ := isL_v g6
  obtain rfl : w2 = (.long i2) := Option.some.inj ei2
  obtain ⟨n, o, h1, h2, h3, _, L, rfl, ⟨rfl, N⟩, hq⟩ := rm0 l s _ hw tables_1 i0 i1 i2  s.heap s.heap.size (Nat.le_refl _)  p e ha hc hk s m _ below hf ((Spec.applies_iff_loose hf).mp happ).1 ⟨rfl, State.Warmed39.refl s, rfl⟩ trivial
  refine ⟨n, _, h1, h2, h3, hpost _ _ _ _ _ _ ⟨Cond.after_iff.mpr rfl, Cond.after_iff.mpr (eq_i res_at (Term.int_eval (1)) rfl), trivial⟩ ⟨hq.1, hq.2.1, (hq.2.2.sift fun y hy => Or.inr (N y hy)).mono (by decide) (by decide)⟩⟩
theorem main_1_1 : Claimed_1_1 := comes_1 fun _ _ _ _ _ _ h hF => ⟨h.1, hF⟩
theorem main_1_2 : Claimed_1_2 := comes_1 fun _ _ _ _ _ _ h hF => ⟨h.2.1, hF⟩
end Jvm.Pilot.@@N@@
namespace Jvm.Pilot.@@N@@
open Jvm Jvm.ClassFile Sem Op Lib Jvm.Free Jvm.Stand Jvm.Pilot.@@N@@.Jvm.D
/-! MADE BY PROGRAM (witnessworld.py) out of the Statement's table words and the real class files: 9 classes; the members and pool entries that the words name. The judged class is class 1, her method 2. -/
namespace start1
open Jvm.ClassFile
def u (s : String) : CpInfo := .utf8 (stringToUtf16 s)
/-- a pool by its gaps: so many unusable entries, then the entry; so many at the end -/
def gap : Nat → List CpInfo → List CpInfo
  | 0, r => r
  | n + 1, r => .unusable :: gap n r
def poolList (es : List (Nat × CpInfo)) (last : Nat) : List CpInfo := es.foldr (fun e r => gap e.1 (e.2 :: r)) (gap last [])
def pool (es : List (Nat × CpInfo)) (last : Nat) : Array CpInfo := ⟨poolList es last⟩
def fileOf (pool : Array CpInfo) (this : Nat) (attrs : Array Attribute := #[]) (ms : Array MethodInfo := #[]) (fl : Nat := 33) (sup : Nat := 0) (ifs : Array Nat := #[]) (fds : Array FieldInfo := #[]) : ClassFile where
  minorVersion := 0
  majorVersion := 65
  constantPool := pool
  accessFlags := fl
  thisClass := this
  superClass := sup
  interfaces := ifs
  fields := fds
  methods := ms
  attributes := attrs
def plain (name : String) (sup : Option ClassId) : Class where
  name := name
  kind := .ordinary
  loader := none
  accessFlags := 33
  super := sup
  interfaces := #[]
  cf := none
  fields := #[]
  methods := #[]
  instanceTypes := #[]
  staticTypes := #[]
  resolved := #[]
  callSites := []
  init := .initialized
  statics := none
  mirror := none

def pool0 : Array CpInfo := pool [(5, u "<init>"), (0, u "()V"), (1, .class_ 10), (1, u "java/lang/Object")] 113

def k0m0 : Method := { name := "<init>", desc := "()V", sig := { parameters := [], returnType := none }, accessFlags := 1, code := none }
/-- java/lang/Object -/
def k0 : Class := { plain "java/lang/Object" none with
  accessFlags := 33
  interfaces := #[]
  cf := some (fileOf pool0 8 #[] #[{ accessFlags := 1, nameIndex := 5, descriptorIndex := 6, attributes := #[] }] 33 0 #[] #[])
  fields := #[]
  methods := #[k0m0]
  instanceTypes := #[]
  staticTypes := #[]
  resolved := Array.replicate 124 none
  statics := none }

def pool1 : Array CpInfo := pool [(2, .class_ 4), (1, u "java/lang/Object"), (0, u "<init>"), (0, u "()V"), (0, .methodref 8 9), (0, .class_ 10), (0, .nameAndType 11 12), (0, u "com/example/glottis/glottis/audio/Audio"), (0, u "put"), (0, u "([BIS)V"), (0, .methodref 14 15), (0, .class_ 16), (0, .nameAndType 17 18), (0, u "com/example/glottis/glottis/audio/AudioPutPinLaw"), (0, u "kept"), (0, u "([BIIJ)Z"), (3, u "law"), (0, u "(IIJ)Z")] 4

def k1m0 : Method := { name := "<init>", desc := "()V", sig := { parameters := [], returnType := none }, accessFlags := 2, code := none }
def k1c1 : Code := { maxStack := 5, maxLocals := 5, code := method_2_code, exceptionTable := #[], attributes := #[] }
def k1m1 : Method := { name := "kept", desc := "([BIIJ)Z", sig := { parameters := [(.array .byte), .int, .int, .long], returnType := some .boolean }, accessFlags := 10, code := some k1c1 }
def k1c2 : Code := { maxStack := 5, maxLocals := 11, code := code, exceptionTable := #[], attributes := #[] }
def k1m2 : Method := { name := "law", desc := "(IIJ)Z", sig := { parameters := [.int, .int, .long], returnType := some .boolean }, accessFlags := 9, code := some k1c2 }
/-- com/example/glottis/glottis/audio/AudioPutPinLaw -/
def k1 : Class := { plain "com/example/glottis/glottis/audio/AudioPutPinLaw" (some 0) with
  accessFlags := 49
  interfaces := #[]
  cf := some (fileOf pool1 14 #[] #[{ accessFlags := 2, nameIndex := 5, descriptorIndex := 6, attributes := #[] }, { accessFlags := 10, nameIndex := 17, descriptorIndex := 18, attributes := #[] }, { accessFlags := 9, nameIndex := 22, descriptorIndex := 23, attributes := #[] }] 49 2 #[] #[])
  fields := #[]
  methods := #[k1m0, k1m1, k1m2]
  instanceTypes := #[]
  staticTypes := #[]
  resolved := Array.replicate 28 none
  statics := none }

def pool2 : Array CpInfo := pool [(2, .class_ 4), (1, u "java/lang/Object"), (0, u "<init>"), (0, u "()V"), (2, .class_ 10), (0, u "com/example/glottis/glottis/audio/Audio"), (29, .class_ 41), (0, u "com/example/glottis/glottis/audio/Audio$FilteredInput"), (13, .class_ 56), (0, u "com/example/glottis/glottis/audio/Audio$Gain"), (9, u "put"), (0, u "([BIS)V"), (14, u "SAMPLE_RATES"), (0, u "Ljava/util/List;"), (2, u "BITS"), (0, u "I")] 22

def k2m0 : Method := { name := "<init>", desc := "()V", sig := { parameters := [], returnType := none }, accessFlags := 2, code := none }
def k2c1 : Code := { maxStack := 4, maxLocals := 3, code := prog_1_method_6_code, exceptionTable := #[], attributes := #[] }
def k2m1 : Method := { name := "put", desc := "([BIS)V", sig := { parameters := [(.array .byte), .int, .short], returnType := none }, accessFlags := 8, code := some k2c1 }
/-- com/example/glottis/glottis/audio/Audio -/
def k2 : Class := { plain "com/example/glottis/glottis/audio/Audio" (some 0) with
  accessFlags := 33
  interfaces := #[]
  cf := some (fileOf pool2 9 #[.nestMembers #[40, 55]] #[{ accessFlags := 2, nameIndex := 5, descriptorIndex := 6, attributes := #[] }, { accessFlags := 8, nameIndex := 66, descriptorIndex := 67, attributes := #[] }] 33 2 #[] #[{ accessFlags := 25, nameIndex := 82, descriptorIndex := 83, attributes := #[] }, { accessFlags := 26, nameIndex := 86, descriptorIndex := 87, attributes := #[] }])
  fields := #[{ name := "SAMPLE_RATES", type := (.object "java/util/List"), accessFlags := 25, slot := 0, constantValue := 0 }, { name := "BITS", type := .int, accessFlags := 26, slot := 1, constantValue := 0 }]
  methods := #[k2m0, k2m1]
  instanceTypes := #[]
  staticTypes := #[(.object "java/util/List"), .int]
  resolved := Array.replicate 110 none
  statics := none }

def pool3 : Array CpInfo := pool [(1, u "java/lang/Cloneable"), (0, .class_ 1), (0, u "java/lang/Object"), (0, .class_ 3)] 3

/-- java/lang/Cloneable -/
def k3 : Class := { plain "java/lang/Cloneable" (some 0) with
  accessFlags := 1537
  interfaces := #[]
  cf := some (fileOf pool3 2 #[] #[] 1537 4 #[] #[])
  fields := #[]
  methods := #[]
  instanceTypes := #[]
  staticTypes := #[]
  resolved := Array.replicate 8 none
  statics := none }

def pool4 : Array CpInfo := pool [(1, u "java/io/Serializable"), (0, .class_ 1), (0, u "java/lang/Object"), (0, .class_ 3)] 3

/-- java/io/Serializable -/
def k4 : Class := { plain "java/io/Serializable" (some 0) with
  accessFlags := 1537
  interfaces := #[]
  cf := some (fileOf pool4 2 #[] #[] 1537 4 #[] #[])
  fields := #[]
  methods := #[]
  instanceTypes := #[]
  staticTypes := #[]
  resolved := Array.replicate 8 none
  statics := none }

/-- the primitive byte -/
def k5 : Class := { plain "byte" none with kind := .primitive 'B', accessFlags := 0x411 }
/-- [B -/
def k6 : Class := { plain "[B" (some 0) with kind := .array 5 .byte, interfaces := #[3, 4], accessFlags := 1041 }

/-- the primitive int -/
def k7 : Class := { plain "int" none with kind := .primitive 'I', accessFlags := 0x411 }
/-- [I -/
def k8 : Class := { plain "[I" (some 0) with kind := .array 7 .int, interfaces := #[3, 4], accessFlags := 1041 }

def heap : Heap := #[]
def classes : Array Class := #[k0, k1, k2, k3, k4, k5, k6, k7, k8]
def interned : List (Array UInt16 × Addr) := []
def slotsUsed : Nat := 0
def theMethod : MethodId := ⟨1, 2⟩
def args0 : Array Value := #[.int 5, .int 5, .long 5]
def aboutOver (below : List Frame) : State where
  vm := { classes := classes, interned := interned.toArray }
  heap := heap
  slotsUsed := slotsUsed
  threads := #[{ frames := .invoking theMethod args0 :: below }]
def below0 : List Frame := [.native { method := ⟨0, 0⟩, args := #[] }]
def about1 : State := aboutOver below0
def p0 : Program := .bare "" "" ""
def e0 : Env := launch0.env 0 0 0
theorem w_frames : about1.frames = Frame.invoking theMethod args0 :: below0 := rfl
set_option maxRecDepth 65536 in
theorem w_args : argsFit about1.vm theMethod args0 = true := by decide +kernel
set_option maxRecDepth 65536 in
theorem w_heap : heapFits about1 = true := by decide +kernel
set_option maxRecDepth 65536 in
theorem w_runnable : about1.curStatus? = some .runnable := by decide +kernel
set_option maxRecDepth 65536 in
theorem w_alone : about1.alone = true := by decide +kernel
set_option maxRecDepth 65536 in
theorem w_named : about1.methodNamed? x = some theMethod := by decide +kernel
set_option maxRecDepth 65536 in
theorem w_hears : about1.hears theMethod below0 = true := by decide +kernel
set_option maxRecDepth 65536 in
theorem w_ripe : about1.ripe theMethod args0 below0 = true := by decide +kernel
theorem w_running : about1.status = .running := rfl
set_option maxRecDepth 65536 in
theorem w_room : about1.hasRoom e0.platform room_1 = true :=
  launch0.hasRoom_least _ room_1 (by decide +kernel) (by decide +kernel) (by decide +kernel) (by decide +kernel) (by decide +kernel) (by decide +kernel)
theorem allAtoms_all (ts : List Jvm.Cond) (a : Array Jvm.Value) (st : Jvm.State) : (allAtoms ts).before a st = ts.all (fun c => c.before a st) := by
  induction ts with
  | nil => rfl
  | cons c t ih =>
    show (Jvm.Cond.and c (allAtoms t)).before a st = _
    rw [Jvm.Cond.before_and, ih, List.all_cons]
def words1 : List Jvm.Cond := Jvm.Cond.code x code maxLocals ret :: tables_1
/-- a 'code' word, met by the world's own term for the bytes: nothing is compared byte by byte -/
theorem code_word {y : MethodName} {bytes : ByteArray} {mx : Nat} {rt : Option FieldType} {a : Array Value} {s : State} {m : MethodId} {meth : Method} {c : Code} (h1 : s.methodNamed? y = some m) (h2 : s.vm.method? m = some meth) (h3 : meth.code = some c) (h4 : c.code = bytes)
    (h5 : (c.maxLocals == mx && c.exceptionTable.isEmpty && decide (c.maxStack ≤ mostOperands) && decide (meth.sig.returnType = rt) && !meth.locks && decide (parseMethodDescriptor y.desc = some meth.sig)) = true) : (Jvm.Cond.code y bytes mx rt).before a s = true := by
  simp only [Bool.and_eq_true, beq_iff_eq, Bool.not_eq_true', decide_eq_true_eq] at h5
  obtain ⟨⟨⟨⟨⟨g1, g2⟩, g3⟩, g4⟩, g5⟩, g6⟩ := h5
  simp [Cond.before, Cond.holds, Cond.value, h1, h2, h3, h4, g1, g2, g3, g4, g5, g6]
def isCode : Jvm.Cond → Bool
  | .code _ _ _ _ => true
  | _ => false
theorem all_split {L : List Jvm.Cond} {P : Jvm.Cond → Bool} (h1 : L.all (fun c => isCode c || P c) = true) (h2 : ∀ c ∈ L.filter isCode, P c = true) : L.all P = true := by
  refine List.all_eq_true.mpr fun c hc => ?_
  have h := List.all_eq_true.mp h1 c hc
  rcases Bool.eq_false_or_eq_true (isCode c) with hi | hi
  · exact h2 c (List.mem_filter.mpr ⟨hc, hi⟩)
  · simpa [hi] using h
set_option maxRecDepth 65536 in
theorem w_c0 : (Jvm.Cond.code x code maxLocals ret).before args0 about1 = true := code_word (m := ⟨1, 2⟩) (meth := k1m2) (c := k1c2) (by decide +kernel) rfl rfl rfl (by decide +kernel)
set_option maxRecDepth 65536 in
theorem w_c1 : (Jvm.Cond.code ({ cls := "com/example/glottis/glottis/audio/Audio", name := "put", desc := "([BIS)V" } : Jvm.MethodName) prog_1_method_6_code (3 : Nat) (Option.none : Option Jvm.ClassFile.FieldType)).before args0 about1 = true := code_word (m := ⟨2, 1⟩) (meth := k2m1) (c := k2c1) (by decide +kernel) rfl rfl rfl (by decide +kernel)
set_option maxRecDepth 65536 in
theorem w_c2 : (Jvm.Cond.code ({ cls := "com/example/glottis/glottis/audio/AudioPutPinLaw", name := "kept", desc := "([BIIJ)Z" } : Jvm.MethodName) method_2_code (5 : Nat) (Option.some Jvm.ClassFile.FieldType.boolean)).before args0 about1 = true := code_word (m := ⟨1, 1⟩) (meth := k1m1) (c := k1c1) (by decide +kernel) rfl rfl rfl (by decide +kernel)
def codes1 : List Jvm.Cond := [Jvm.Cond.code x code maxLocals ret, Jvm.Cond.code ({ cls := "com/example/glottis/glottis/audio/Audio", name := "put", desc := "([BIS)V" } : Jvm.MethodName) prog_1_method_6_code (3 : Nat) (Option.none : Option Jvm.ClassFile.FieldType), Jvm.Cond.code ({ cls := "com/example/glottis/glottis/audio/AudioPutPinLaw", name := "kept", desc := "([BIIJ)Z" } : Jvm.MethodName) method_2_code (5 : Nat) (Option.some Jvm.ClassFile.FieldType.boolean)]
set_option maxRecDepth 65536 in
theorem codes_eq : words1.filter isCode = codes1 := rfl
theorem w_codes : ∀ c ∈ words1.filter isCode, c.before args0 about1 = true := by
  rw [codes_eq]
  intro c hc
  simp only [codes1, List.mem_cons, List.not_mem_nil, or_false] at hc
  rcases hc with rfl | rfl | rfl
  · exact w_c0
  · exact w_c1
  · exact w_c2
set_option maxRecDepth 65536 in
theorem w_t1 : words1.all (fun c => isCode c || c.before args0 about1) = true := by decide +kernel
theorem w_tables : (allAtoms (Jvm.Cond.code x code maxLocals ret :: tables_1)).before args0 about1 = true := by
  rw [allAtoms_all]
  show words1.all (fun c => c.before args0 about1) = true
  refine all_split ?_ w_codes
  rw [w_t1]
set_option maxRecDepth 65536 in
theorem w_case : (Jvm.Cond.and given_1 narrow_1).before args0 about1 = true := by decide +kernel
theorem w_applies : (headSpec (Jvm.Cond.code x code maxLocals ret :: tables_1) room_1).applies x e0.platform about1 = true :=
  (Spec.applies_iff w_frames).mpr ⟨w_running, w_runnable, w_alone, w_named, w_hears, w_ripe, w_room, w_tables⟩
theorem atStart : AtStart classFile x code maxLocals ret World_1 tables_1 room_1 Calls_1 rest_1 Pre_1 launch0 p0 e0 about1 theMethod args0 below0 :=
  ⟨lists_1, trivial, launch0.admits_env _ _ _, launch0.least_env, fairChoices_fair.cas, fairChoices_fair.clock, w_frames, w_args, w_heap, w_applies, trivial, trivial, w_case⟩
end start1
theorem witness_1 : WitnessClaimed_1 := ⟨start1.p0, start1.e0, start1.about1, start1.theMethod, start1.args0, start1.below0, start1.atStart⟩
end Jvm.Pilot.@@N@@
