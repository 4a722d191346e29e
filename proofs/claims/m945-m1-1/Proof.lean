import JvmDerived
import JvmDerived.Pilot.@@N@@Statement
import JvmDerived.Pilot.@@N@@Code
set_option linter.unusedVariables false
set_option linter.unusedSimpArgs false

namespace Jvm.RoadKit
open Sem ClassFile Op Lib Jvm.Stand Jvm.Free Jvm.LawKit
section New
variable {p : Program} {l : Launch} {e : Env} {R : Room} {s : State} {m : MethodId} {args : Array Value} {below : List Frame} {meth : Method} {c : Code} {T : State} {locs : List Loc} {cells slots : Nat}
theorem retI (X : Stand p l e R s m args below meth c T locs cells slots) (hx : p.tables.exec = Jvm.exec) {pc : Nat} {Ls : Array Slot} {z : Int32} {rest : List Value} (hret : meth.sig.returnType = some .int) (hd : decode c.code pc = .ok (.ireturn, 1)) {fs : List Frame}
    (hl : ∀ (f : JFrame) (acts : List Action), f.method = m → f.locked = none → f.entered = [] → (doReturn e (T.setTop f) acts (some (.int z))).1 = T.setFrames fs) : Steps p.tables e below (T.setTop (mkF m pc Ls (.int z :: rest))) (T.setFrames fs) := by
  have hm' : T.vm.method? m = some meth := X.method'
  have hn : narrow .int (.int z) = .int z := rfl
  show Steps p.tables e below (T.setTop { method := m, pc := pc, locals := Ls, stack := _ :: rest, locked := none }) _
  jvm_step X.here [X.here.top, hx, hd, hm', hret, hn]
  first | (intro acts; rw [hl _ acts rfl rfl rfl]) | rw [hl _ _ rfl rfl rfl]
  exact Steps.refl _
end New
end Jvm.RoadKit
namespace Jvm.Pilot.@@N@@
open Jvm Jvm.ClassFile Sem Op Lib Jvm.Free Jvm.Stand Jvm.LawKit Jvm.RoadKit Bundle Jvm.Pilot.@@N@@.Jvm.D
abbrev y_0 : MethodName := ⟨"com/example/glottis/glottis/audio/Audio", "sample", "([BI)S"⟩
abbrev own_zl (n : Nat) : List Value := List.replicate n (.long (0 : Int64))
abbrev own_zi (n : Nat) : List Value := List.replicate n (.int (0 : Int32))
abbrev own_zr (n : Nat) : List Value := List.replicate n .null
abbrev vi (x : Int32) : Slot := .val (.int x)
abbrev vj (x : Int64) : Slot := .val (.long x)
abbrev vr (x : Addr) : Slot := .val (.ref x)
section Steps
variable {p : Program} {l : Launch} {e : Env} {R : Room} {s : State} {m : MethodId} {args : Array Value} {below : List Frame} {meth : Method} {c : Code} {T : State} {locs : List Loc} {cells slots : Nat} {pc pc' : Nat} {Ls L' : Array Slot} {S : List Value} {t : State} {Z : State} {h : Heap} {a : Addr} {cl : Cell}
abbrev Go (p : Program) (e : Env) (below : List Frame) (T0 : State) (g0 : JFrame) (T : State) (g : JFrame) : Prop := ∀ t, Steps p.tables e below (T.setTop g) t → Steps p.tables e below (T0.setTop g0) t
theorem own_w {Z : State} {a0 : Array Value} (hw : ∀ d ∈ tables_1, d.before a0 Z = true) (k : Nat) {d : Jvm.Cond} (h : tables_1[k]? = some d) : d.before a0 Z = true := hw _ (List.mem_of_getElem? h)
theorem o_iloadN (X : Stand p l e R s m args below meth c T locs cells slots) (hx : p.tables.exec = Jvm.exec) {i : Fin 4} {v : Int32} (hd : decode c.code pc = .ok (.iload_n i, 1)) (hl : Ls[i.val]? = some (.val (.int v))) (k : Steps p.tables e below (T.setTop (mkF m (pc + 1) Ls (.int v :: S))) t) : Steps p.tables e below (T.setTop (mkF m pc Ls (S))) t := XS.iloadN X.here hx rfl hd hl k
theorem o_iload (X : Stand p l e R s m args below meth c T locs cells slots) (hx : p.tables.exec = Jvm.exec) {i : Nat} {v : Int32} (hd : decode c.code pc = .ok (.iload i, 2)) (hl : Ls[i]? = some (.val (.int v))) (k : Steps p.tables e below (T.setTop (mkF m (pc + 2) Ls (.int v :: S))) t) : Steps p.tables e below (T.setTop (mkF m pc Ls (S))) t := XS.iload X.here hx rfl hd hl k
theorem o_aloadN (X : Stand p l e R s m args below meth c T locs cells slots) (hx : p.tables.exec = Jvm.exec) {i : Fin 4} {v : Value} (hd : decode c.code pc = .ok (.aload_n i, 1)) (hl : Ls[i.val]? = some (.val v)) (hv : v.isRef = true) (k : Steps p.tables e below (T.setTop (mkF m (pc + 1) Ls (v :: S))) t) : Steps p.tables e below (T.setTop (mkF m pc Ls (S))) t := XS.aloadN X.here hx rfl hd hl hv k
theorem o_aload (X : Stand p l e R s m args below meth c T locs cells slots) (hx : p.tables.exec = Jvm.exec) {i : Nat} {v : Value} (hd : decode c.code pc = .ok (.aload i, 2)) (hl : Ls[i]? = some (.val v)) (hv : v.isRef = true) (k : Steps p.tables e below (T.setTop (mkF m (pc + 2) Ls (v :: S))) t) : Steps p.tables e below (T.setTop (mkF m pc Ls (S))) t := XS.aload X.here hx rfl hd hl hv k
theorem o_istore (X : Stand p l e R s m args below meth c T locs cells slots) (hx : p.tables.exec = Jvm.exec) {i : Nat} {v : Int32} (hd : decode c.code pc = .ok (.istore i, 2)) (hl : storeLocals Ls i (.int v) = some L') (k : Steps p.tables e below (T.setTop (mkF m (pc + 2) L' (S))) t) : Steps p.tables e below (T.setTop (mkF m pc Ls (.int v :: S))) t := XS.istore X.here hx rfl hd rfl hl k
theorem o_astore (X : Stand p l e R s m args below meth c T locs cells slots) (hx : p.tables.exec = Jvm.exec) {i : Nat} {v : Value} (hd : decode c.code pc = .ok (.astore i, 2)) (hv : v.isRef = true) (hl : storeLocals Ls i v = some L') (k : Steps p.tables e below (T.setTop (mkF m (pc + 2) L' (S))) t) : Steps p.tables e below (T.setTop (mkF m pc Ls (v :: S))) t := XS.astore X.here hx rfl hd rfl hv hl k
theorem o_iconst (X : Stand p l e R s m args below meth c T locs cells slots) (hx : p.tables.exec = Jvm.exec) {i : Int} {v : Int32} (hd : decode c.code pc = .ok (.iconst i, 1)) (hv : v = Int32.ofInt i) (k : Steps p.tables e below (T.setTop (mkF m (pc + 1) Ls (.int v :: S))) t) : Steps p.tables e below (T.setTop (mkF m pc Ls (S))) t := XS.iconst X.here hx rfl hd (hv ▸ k)
theorem o_bipush (X : Stand p l e R s m args below meth c T locs cells slots) (hx : p.tables.exec = Jvm.exec) {i : Int} {v : Int32} (hd : decode c.code pc = .ok (.bipush i, 2)) (hv : v = (Int8.ofInt i).toInt32) (k : Steps p.tables e below (T.setTop (mkF m (pc + 2) Ls (.int v :: S))) t) : Steps p.tables e below (T.setTop (mkF m pc Ls (S))) t := XS.bipush X.here hx rfl hd (hv ▸ k)
theorem o_sipush (X : Stand p l e R s m args below meth c T locs cells slots) (hx : p.tables.exec = Jvm.exec) {i : Int} {v : Int32} (hd : decode c.code pc = .ok (.sipush i, 3)) (hv : v = (Int16.ofInt i).toInt32) (k : Steps p.tables e below (T.setTop (mkF m (pc + 3) Ls (.int v :: S))) t) : Steps p.tables e below (T.setTop (mkF m pc Ls (S))) t := XS.sipush X.here hx rfl hd (hv ▸ k)
theorem o_ldc (X : Stand p l e R s m args below meth c T locs cells slots) (hx : p.tables.exec = Jvm.exec) {own : String} {i : Nat} {v : Int32} (ho : s.vm.findClass own = some m.cls) (w : (Cond.constant own i v).before args s = true) (hd : decode c.code pc = .ok (.ldc i, 2))  (k : Steps p.tables e below (T.setTop (mkF m (pc + 2) Ls (.int v :: S))) t) : Steps p.tables e below (T.setTop (mkF m pc Ls (S))) t := X.ldcInt hx ho w (g := mkF m pc Ls S) rfl hd _ k
theorem o_iadd (X : Stand p l e R s m args below meth c T locs cells slots) (hx : p.tables.exec = Jvm.exec) {x y : Int32} (hd : decode c.code pc = .ok (.iadd, 1))  (k : Steps p.tables e below (T.setTop (mkF m (pc + 1) Ls (.int (x + y) :: S))) t) : Steps p.tables e below (T.setTop (mkF m pc Ls (.int y :: .int x :: S))) t := XS.iadd X.here hx rfl hd rfl k
theorem o_iaddE (X : Stand p l e R s m args below meth c T locs cells slots) (hx : p.tables.exec = Jvm.exec) {x y v : Int32} (hd : decode c.code pc = .ok (.iadd, 1)) (hv : v = x + y) (k : Steps p.tables e below (T.setTop (mkF m (pc + 1) Ls (.int v :: S))) t) : Steps p.tables e below (T.setTop (mkF m pc Ls (.int y :: .int x :: S))) t := XS.iadd X.here hx rfl hd rfl (hv ▸ k)
theorem o_isub (X : Stand p l e R s m args below meth c T locs cells slots) (hx : p.tables.exec = Jvm.exec) {x y : Int32} (hd : decode c.code pc = .ok (.isub, 1))  (k : Steps p.tables e below (T.setTop (mkF m (pc + 1) Ls (.int (x - y) :: S))) t) : Steps p.tables e below (T.setTop (mkF m pc Ls (.int y :: .int x :: S))) t := XS.isub X.here hx rfl hd rfl k
theorem o_imul (X : Stand p l e R s m args below meth c T locs cells slots) (hx : p.tables.exec = Jvm.exec) {x y : Int32} (hd : decode c.code pc = .ok (.imul, 1))  (k : Steps p.tables e below (T.setTop (mkF m (pc + 1) Ls (.int (x * y) :: S))) t) : Steps p.tables e below (T.setTop (mkF m pc Ls (.int y :: .int x :: S))) t := XS.imul X.here hx rfl hd rfl k
theorem o_imulE (X : Stand p l e R s m args below meth c T locs cells slots) (hx : p.tables.exec = Jvm.exec) {x y v : Int32} (hd : decode c.code pc = .ok (.imul, 1)) (hv : v = x * y) (k : Steps p.tables e below (T.setTop (mkF m (pc + 1) Ls (.int v :: S))) t) : Steps p.tables e below (T.setTop (mkF m pc Ls (.int y :: .int x :: S))) t := XS.imul X.here hx rfl hd rfl (hv ▸ k)
theorem o_iand (X : Stand p l e R s m args below meth c T locs cells slots) (hx : p.tables.exec = Jvm.exec) {x y : Int32} (hd : decode c.code pc = .ok (.iand, 1))  (k : Steps p.tables e below (T.setTop (mkF m (pc + 1) Ls (.int (x &&& y) :: S))) t) : Steps p.tables e below (T.setTop (mkF m pc Ls (.int y :: .int x :: S))) t := XS.iand X.here hx rfl hd rfl k
theorem o_ior (X : Stand p l e R s m args below meth c T locs cells slots) (hx : p.tables.exec = Jvm.exec) {x y : Int32} (hd : decode c.code pc = .ok (.ior, 1))  (k : Steps p.tables e below (T.setTop (mkF m (pc + 1) Ls (.int (x ||| y) :: S))) t) : Steps p.tables e below (T.setTop (mkF m pc Ls (.int y :: .int x :: S))) t := XS.ior X.here hx rfl hd rfl k
theorem o_ixor (X : Stand p l e R s m args below meth c T locs cells slots) (hx : p.tables.exec = Jvm.exec) {x y : Int32} (hd : decode c.code pc = .ok (.ixor, 1))  (k : Steps p.tables e below (T.setTop (mkF m (pc + 1) Ls (.int (x ^^^ y) :: S))) t) : Steps p.tables e below (T.setTop (mkF m pc Ls (.int y :: .int x :: S))) t := XS.ixor X.here hx rfl hd rfl k
theorem o_i2b (X : Stand p l e R s m args below meth c T locs cells slots) (hx : p.tables.exec = Jvm.exec) {x : Int32} (hd : decode c.code pc = .ok (.i2b, 1))  (k : Steps p.tables e below (T.setTop (mkF m (pc + 1) Ls (.int (x.toInt8.toInt32) :: S))) t) : Steps p.tables e below (T.setTop (mkF m pc Ls (.int x :: S))) t := XS.i2b X.here hx rfl hd rfl k
theorem o_i2s (X : Stand p l e R s m args below meth c T locs cells slots) (hx : p.tables.exec = Jvm.exec) {x : Int32} (hd : decode c.code pc = .ok (.i2s, 1))  (k : Steps p.tables e below (T.setTop (mkF m (pc + 1) Ls (.int (x.toInt16.toInt32) :: S))) t) : Steps p.tables e below (T.setTop (mkF m pc Ls (.int x :: S))) t := XS.i2s X.here hx rfl hd rfl k
theorem o_ishl (X : Stand p l e R s m args below meth c T locs cells slots) (hx : p.tables.exec = Jvm.exec) {x : Int32} {y : Int32} (hd : decode c.code pc = .ok (.ishl, 1))  (k : Steps p.tables e below (T.setTop (mkF m (pc + 1) Ls (.int (x <<< (y &&& 31)) :: S))) t) : Steps p.tables e below (T.setTop (mkF m pc Ls (.int y :: .int x :: S))) t := XS.ishl X.here hx rfl hd rfl k
theorem o_ishr (X : Stand p l e R s m args below meth c T locs cells slots) (hx : p.tables.exec = Jvm.exec) {x : Int32} {y : Int32} (hd : decode c.code pc = .ok (.ishr, 1))  (k : Steps p.tables e below (T.setTop (mkF m (pc + 1) Ls (.int (x >>> (y &&& 31)) :: S))) t) : Steps p.tables e below (T.setTop (mkF m pc Ls (.int y :: .int x :: S))) t := XS.ishr X.here hx rfl hd rfl k
theorem o_irem (X : Stand p l e R s m args below meth c T locs cells slots) (hx : p.tables.exec = Jvm.exec) {x y : Int32} (hd : decode c.code pc = .ok (.irem, 1)) (hy : y ≠ 0) (k : Steps p.tables e below (T.setTop (mkF m (pc + 1) Ls (.int (x % y) :: S))) t) : Steps p.tables e below (T.setTop (mkF m pc Ls (.int y :: .int x :: S))) t := iremM X hx rfl hd rfl hy k
theorem o_dup (X : Stand p l e R s m args below meth c T locs cells slots) (hx : p.tables.exec = Jvm.exec) {x : Value} (hd : decode c.code pc = .ok (.dup, 1)) (hc : x.category = 1) (k : Steps p.tables e below (T.setTop (mkF m (pc + 1) Ls (x :: x :: S))) t) : Steps p.tables e below (T.setTop (mkF m pc Ls (x :: S))) t := XS.dup X.here hx rfl hd rfl hc k
theorem o_goto (X : Stand p l e R s m args below meth c T locs cells slots) (hx : p.tables.exec = Jvm.exec) {o : Int} (hd : decode c.code pc = .ok (.goto o, 3)) (hp : ((pc : Int) + o).toNat = pc') (ho : 0 ≤ (pc : Int) + o) (k : Steps p.tables e below (T.setTop (mkF m (pc') Ls (S))) t) : Steps p.tables e below (T.setTop (mkF m pc Ls (S))) t := XS.goto X.here hx rfl rfl hd ho hp k
theorem o_icmpYes (X : Stand p l e R s m args below meth c T locs cells slots) (hx : p.tables.exec = Jvm.exec) {cd : ClassFile.Cond} {x y : Int32} {o : Int} (hd : decode c.code pc = .ok (.if_icmp cd o, 3)) (hp : ((pc : Int) + o).toNat = pc') (ho : 0 ≤ (pc : Int) + o) (hc : if_icmp.holds cd x y = true) (k : Steps p.tables e below (T.setTop (mkF m (pc') Ls (S))) t) : Steps p.tables e below (T.setTop (mkF m pc Ls (.int y :: .int x :: S))) t := XS.icmpYes X.here hx rfl rfl hd rfl hc ho hp k
theorem o_icmpNo (X : Stand p l e R s m args below meth c T locs cells slots) (hx : p.tables.exec = Jvm.exec) {cd : ClassFile.Cond} {x y : Int32} {o : Int} (hd : decode c.code pc = .ok (.if_icmp cd o, 3)) (hc : if_icmp.holds cd x y = false) (k : Steps p.tables e below (T.setTop (mkF m (pc + 3) Ls (S))) t) : Steps p.tables e below (T.setTop (mkF m pc Ls (.int y :: .int x :: S))) t := XS.icmpNo X.here hx rfl hd rfl hc k
theorem o_baload (X : Stand p l e R s m args below meth c T locs cells slots) (hx : p.tables.exec = Jvm.exec) (hZ : Z.Warmed39 s.vm) (eT : T.heap = h) {j : Int32} {v : Int32} (A : Arr Z h a cl .byte) (hin : ¬ (j < 0 ∨ cl.slots.size ≤ j.toNatClampNeg)) (hat : cl.slots[j.toNatClampNeg]? = some (.int v)) (hd : decode c.code pc = .ok (.baload, 1))  (k : Steps p.tables e below (T.setTop (mkF m (pc + 1) Ls (.int v :: S))) t) : Steps p.tables e below (T.setTop (mkF m pc Ls (.int j :: .ref a :: S))) t := X.baloadBytes hx (j := j) (v := .int v) (by rw [eT]; exact A.1) (State.isArrayOf_alike hZ.alike A.2.1) A.2.2 hin hat (g := mkF m pc Ls (.int j :: .ref a :: S)) rfl rfl hd _ k
end Steps
theorem own_nar_byte (x : Int32) : nar .byte x.toInt8.toInt32 = x.toInt8.toInt32 := by
  show x.toInt8.toInt32.toInt8.toInt32 = _
  rw [Int8.toInt8_toInt32]
theorem own_nar_short (x : Int32) : nar .short x.toInt16.toInt32 = x.toInt16.toInt32 := by
  show x.toInt16.toInt32.toInt16.toInt32 = _
  rw [Int16.toInt16_toInt32]
theorem own_nar_char (x : Int32) : nar .char x.toUInt32.toUInt16.toUInt32.toInt32 = x.toUInt32.toUInt16.toUInt32.toInt32 := by
  have h := c_i2c x
  have h2 := c_i2c (x.toUInt32.toUInt16.toUInt32.toInt32)
  show (x.toUInt32.toUInt16.toUInt32.toInt32).toUInt32.toUInt16.toUInt32.toInt32 = _
  apply Int32.toInt_inj.mp
  omega


def own_smp (lo hi : Int32) : Int32 := nar .short ((lo &&& (255 : Int32)) ||| (hi <<< ((8 : Int32) &&& 31))).toInt16.toInt32
theorem own_3 (p : Int32) : ((p &&& (2147483647 : Int32)) % (3 : Int32)) = (0 : Int32) ∨ ((p &&& (2147483647 : Int32)) % (3 : Int32)) = (1 : Int32) ∨ ((p &&& (2147483647 : Int32)) % (3 : Int32)) = (2 : Int32) := by
  have h0 : (p &&& (2147483647 : Int32)).toInt = p.toInt % 2147483648 := c_mask p 2147483647 31 (by decide) (by decide)
  have h : ((p &&& (2147483647 : Int32)) % (3 : Int32)).toInt = (p &&& (2147483647 : Int32)).toInt % 3 := (c_irem _ (3 : Int32) 3 rfl).1 (by omega)
  have h2 : (((p &&& (2147483647 : Int32)) % (3 : Int32))).toInt = 0 ∨ (((p &&& (2147483647 : Int32)) % (3 : Int32))).toInt = 1 ∨ (((p &&& (2147483647 : Int32)) % (3 : Int32))).toInt = 2 := by omega
  rcases h2 with h2 | h2 | h2
  · exact Or.inl (Int32.toInt_inj.mp h2)
  · exact Or.inr (Or.inl (Int32.toInt_inj.mp h2))
  · exact Or.inr (Or.inr (Int32.toInt_inj.mp h2))

theorem own_law (p1 p2 : Int32) : (own_smp (p1.toInt8.toInt32) (p2.toInt8.toInt32)) = (if (32767 : Int32) < (((p2 &&& (255 : Int32)) * (256 : Int32)) + (p1 &&& (255 : Int32))) then ((((p2 &&& (255 : Int32)) * (256 : Int32)) + (p1 &&& (255 : Int32))) - (65536 : Int32)) else (((p2 &&& (255 : Int32)) * (256 : Int32)) + (p1 &&& (255 : Int32)))) := by
  unfold own_smp
  rw [own_nar_short]
  have a1 : (p1 &&& (255 : Int32)).toInt = p1.toInt % 256 := c_mask _ 255 8 (by decide) (by decide)
  have a2 : (p2 &&& (255 : Int32)).toInt = p2.toInt % 256 := c_mask _ 255 8 (by decide) (by decide)
  have a3 := c_i2b p1
  have a4 := c_i2b p2
  have a5 : (p1.toInt8.toInt32 &&& (255 : Int32)).toInt = p1.toInt8.toInt32.toInt % 256 := c_mask _ 255 8 (by decide) (by decide)
  have a6 : ((p2.toInt8.toInt32 <<< ((8 : Int32) &&& 31)).toInt - p2.toInt8.toInt32.toInt * 256) % 4294967296 = 0 := c_ishl _ 8 8 (by decide)
  have a7 := c_or' (p1.toInt8.toInt32 &&& (255 : Int32)) (p2.toInt8.toInt32 <<< ((8 : Int32) &&& 31)) 8 (by decide) 256 rfl (by omega) (by omega) (by omega)
  have a8 := c_i2s ((p1.toInt8.toInt32 &&& (255 : Int32)) ||| (p2.toInt8.toInt32 <<< ((8 : Int32) &&& 31)))
  generalize ((p1.toInt8.toInt32 &&& (255 : Int32)) ||| (p2.toInt8.toInt32 <<< ((8 : Int32) &&& 31))) = W at *
  generalize (p1 &&& (255 : Int32)) = L at *
  generalize (p2 &&& (255 : Int32)) = H at *
  have b1 := c_imul H (256 : Int32)
  rw [show (256 : Int32).toInt = 256 from rfl] at b1
  have b2 := c_iadd (H * (256 : Int32)) L
  have b3 := c_isub (H * (256 : Int32) + L) (65536 : Int32)
  rw [show (65536 : Int32).toInt = 65536 from rfl] at b3
  have := (H * (256 : Int32)).toInt_lt; have := (H * (256 : Int32)).le_toInt; have := (H * (256 : Int32) + L).toInt_lt; have := (H * (256 : Int32) + L).le_toInt
  have := (H * (256 : Int32) + L - (65536 : Int32)).toInt_lt; have := (H * (256 : Int32) + L - (65536 : Int32)).le_toInt
  have c1 : (H * (256 : Int32)).toInt = H.toInt * 256 := by omega
  have c2 : (H * (256 : Int32) + L).toInt = H.toInt * 256 + L.toInt := by omega
  apply Int32.toInt_inj.mp
  split
  · rename_i q; rw [Int32.lt_iff_toInt_lt, show (32767 : Int32).toInt = 32767 from rfl] at q; omega
  · rename_i q; rw [Int32.lt_iff_toInt_lt, show (32767 : Int32).toInt = 32767 from rfl] at q; omega

theorem d1_0 : decode prog_1_method_5_code 0 = .ok (.aload_n 0, 1) := by decide +kernel
theorem d1_1 : decode prog_1_method_5_code 1 = .ok (.iconst 2, 1) := by decide +kernel
theorem d1_2 : decode prog_1_method_5_code 2 = .ok (.iload_n 1, 1) := by decide +kernel
theorem d1_3 : decode prog_1_method_5_code 3 = .ok (.imul, 1) := by decide +kernel
theorem d1_4 : decode prog_1_method_5_code 4 = .ok (.baload, 1) := by decide +kernel
theorem d1_5 : decode prog_1_method_5_code 5 = .ok (.sipush 255, 3) := by decide +kernel
theorem d1_8 : decode prog_1_method_5_code 8 = .ok (.iand, 1) := by decide +kernel
theorem d1_9 : decode prog_1_method_5_code 9 = .ok (.aload_n 0, 1) := by decide +kernel
theorem d1_10 : decode prog_1_method_5_code 10 = .ok (.iconst 2, 1) := by decide +kernel
theorem d1_11 : decode prog_1_method_5_code 11 = .ok (.iload_n 1, 1) := by decide +kernel
theorem d1_12 : decode prog_1_method_5_code 12 = .ok (.imul, 1) := by decide +kernel
theorem d1_13 : decode prog_1_method_5_code 13 = .ok (.iconst 1, 1) := by decide +kernel
theorem d1_14 : decode prog_1_method_5_code 14 = .ok (.iadd, 1) := by decide +kernel
theorem d1_15 : decode prog_1_method_5_code 15 = .ok (.baload, 1) := by decide +kernel
theorem d1_16 : decode prog_1_method_5_code 16 = .ok (.bipush 8, 2) := by decide +kernel
theorem d1_18 : decode prog_1_method_5_code 18 = .ok (.ishl, 1) := by decide +kernel
theorem d1_19 : decode prog_1_method_5_code 19 = .ok (.ior, 1) := by decide +kernel
theorem d1_20 : decode prog_1_method_5_code 20 = .ok (.i2s, 1) := by decide +kernel
theorem d1_21 : decode prog_1_method_5_code 21 = .ok (.ireturn, 1) := by decide +kernel
theorem pn_1_0 : plainName "com/example/glottis/glottis/audio/Audio" = true := by first | (simp [plainName, overriddenIn]; done) | decide +kernel
theorem ef_1_0 (m : MethodId) (x0 : Addr) : entryFrame m #[(.ref x0), (.int (0 : Int32))] 2 = mkF m 0 #[vr x0, vi (0 : Int32)] [] := by first | (simp [entryFrame, mkF, argsToLocals, Value.category]; done) | rfl
def Q1_0 (Z : State) (a1 : Addr) (k1 : ClassId) (w0 : Int32) (w1 : Int32) (w2 : Int32) (w3 : Int32) (w4 : Int32) (w5 : Int32) (h0 : Heap) (n0 : Nat) (v : Option Value) (h : Heap) (L : List Loc) : Prop := v = some (.int (own_smp w0 w1)) ∧ Fr n0 L ∧ h = h0
set_option maxRecDepth 65536 in
set_option maxHeartbeats 40000000 in
theorem rm1_0 (l : Launch) (Z : State) (a0 : Array Value) (hw : ∀ d ∈ tables_1, d.before a0 Z = true) (ws : List Jvm.Cond) (a1 : Addr) (k1 : ClassId) (w0 : Int32) (w1 : Int32) (w2 : Int32) (w3 : Int32) (w4 : Int32) (w5 : Int32) (h0 : Heap) (n0 : Nat) (Z0 : n0 ≤ h0.size) (V0 : Arv Z h0 a1 k1 .byte (6 : Int32) [(.int w0), (.int w1), (.int w2), (.int w3), (.int w4), (.int w5)] (.int (0 : Int32))) :
    MetFree l y_0 (head1 (Jvm.Cond.code y_0 prog_1_method_5_code 2 (some .short) :: ws) ({ frames := 0, cells := 0, slots := 0, locals := 0 } : Room)) (fun a U => a = #[(.ref a1), (.int (0 : Int32))] ∧ Z.Warmed39 U.vm ∧ U.heap = h0) (fun _ _ _ _ _ => True) (fun _ U o U' => ∃ v L, o = .returned v ∧ Q1_0 Z a1 k1 w0 w1 w2 w3 w4 w5 h0 n0 v U'.heap L ∧ FrameEnd U o U' L ({ frames := 0, cells := 0, slots := 0, locals := 0 } : Room).cells ({ frames := 0, cells := 0, slots := 0, locals := 0 } : Room).slots) := by
  refine MetFree.of_bodySF (plainFor_of_name pn_1_0) hisR ?_
  intro p e s m args below meth c s₁ Bd hml0 hP hK
  obtain ⟨rfl, hZ, hh⟩ := hP
  have hx := Bd.exec
  have hby := Bd.bytes
  have hml : c.maxLocals = 2 := hml0
  have hown : s.vm.findClass "com/example/glottis/glottis/audio/Audio" = some m.cls := findClass_of_methodNamed Bd.named
  have hnm := (name_of_methodNamed Bd.named Bd.method).1
  have X0 : Stand p l e ({ frames := 0, cells := 0, slots := 0, locals := 0 } : Room) s m #[(.ref a1), (.int (0 : Int32))] below meth c s₁ [] 0 0 := Stand.of_body Bd
  have e0 : s₁.heap = h0 := by rw [← hh, Bd.state]; rfl
  have N0 := Fr.nil n0
  obtain ⟨F0, hF0⟩ : ∃ F : JFrame, F = entryFrame m #[(.ref a1), (.int (0 : Int32))] 2 := ⟨_, rfl⟩
  have pre0 : ∀ t, Steps p.tables e below (s₁.setTop F0) t → Steps p.tables e below (s₁.setTop (entryFrame m #[(.ref a1), (.int (0 : Int32))] 2)) t := fun t k => hF0 ▸ k
  have go0 : Go p e below s₁ F0 s₁ (mkF m 0 #[vr a1, vi (0 : Int32)] []) := fun t k => castTop (hF0.trans (ef_1_0 m a1)) k
  have go1 : Go p e below s₁ F0 s₁ (mkF m 4 #[vr a1, vi (0 : Int32)] [(.int (0 : Int32)), (.ref a1)]) := by
    intro t kt
    refine go0 t ?_
    refine o_aloadN X0 hx (hb hby d1_0) rfl rfl ?_
    refine o_iconst X0 hx (hb hby d1_1) (v := 2) rfl ?_
    refine o_iloadN X0 hx (hb hby d1_2) rfl ?_
    refine o_imulE X0 hx (hb hby d1_3) (v := 0) rfl ?_
    exact kt
  obtain ⟨cl2, Ar2, -, Sz2, Nn2, Hs2, -⟩ := id V0
  have hin2 : ¬ ((0 : Int32) < 0 ∨ cl2.slots.size ≤ ((0 : Int32)).toNatClampNeg) := inb_of Sz2 ⟨by decide, by decide⟩
  have hat2 : cl2.slots[((0 : Int32)).toNatClampNeg]? = some (.int w0) := Hs2.at hin2 rfl
  have go3 : Go p e below s₁ F0 s₁ (mkF m 15 #[vr a1, vi (0 : Int32)] [(.int (1 : Int32)), (.ref a1), (.int (w0 &&& (255 : Int32)))]) := by
    intro t kt
    refine go1 t ?_
    refine o_baload X0 hx hZ e0 Ar2 hin2 hat2 (hb hby d1_4) ?_
    refine o_sipush X0 hx (hb hby d1_5) (v := 255) rfl ?_
    refine o_iand X0 hx (hb hby d1_8) ?_
    refine o_aloadN X0 hx (hb hby d1_9) rfl rfl ?_
    refine o_iconst X0 hx (hb hby d1_10) (v := 2) rfl ?_
    refine o_iloadN X0 hx (hb hby d1_11) rfl ?_
    refine o_imulE X0 hx (hb hby d1_12) (v := 0) rfl ?_
    refine o_iconst X0 hx (hb hby d1_13) (v := 1) rfl ?_
    refine o_iaddE X0 hx (hb hby d1_14) (v := 1) rfl ?_
    exact kt
  obtain ⟨cl4, Ar4, -, Sz4, Nn4, Hs4, -⟩ := id V0
  have hin4 : ¬ ((1 : Int32) < 0 ∨ cl4.slots.size ≤ ((1 : Int32)).toNatClampNeg) := inb_of Sz4 ⟨by decide, by decide⟩
  have hat4 : cl4.slots[((1 : Int32)).toNatClampNeg]? = some (.int w1) := Hs4.at hin4 rfl
  have go5 : Go p e below s₁ F0 s₁ (mkF m 21 #[vr a1, vi (0 : Int32)] [(.int (((w0 &&& (255 : Int32)) ||| (w1 <<< ((8 : Int32) &&& 31))).toInt16.toInt32))]) := by
    intro t kt
    refine go3 t ?_
    refine o_baload X0 hx hZ e0 Ar4 hin4 hat4 (hb hby d1_15) ?_
    refine o_bipush X0 hx (hb hby d1_16) (v := 8) rfl ?_
    refine o_ishl X0 hx (hb hby d1_18) ?_
    refine o_ior X0 hx (hb hby d1_19) ?_
    refine o_i2s X0 hx (hb hby d1_20) ?_
    exact kt
  obtain ⟨fs, hr, hrun, hended, hW, hsame⟩ := X0.leave (v := some (.int (nar .short (((w0 &&& (255 : Int32)) ||| (w1 <<< ((8 : Int32) &&& 31))).toInt16.toInt32)))) (fun h => by rw [Bd.returns] at h; cases h)
  refine ⟨_, _, pre0 _ (go5 _ ?_), hrun, hended, _, _, rfl, ?_, ⟨_, rfl⟩, hW, hsame.mono (by decide) (by decide)⟩
  · skip
    exact retN X0 hx (t := .short) Bd.returns (by simp) (hb hby d1_21) hr
  · show Q1_0 Z a1 k1 w0 w1 w2 w3 w4 w5 h0 n0 _ s₁.heap _
    rw [e0]
    exact ⟨rfl, N0, rfl⟩

theorem pn_1_1 : plainName "com/example/glottis/glottis/audio/Audio" = true := by first | (simp [plainName, overriddenIn]; done) | decide +kernel
theorem ef_1_1 (m : MethodId) (x0 : Addr) : entryFrame m #[(.ref x0), (.int (1 : Int32))] 2 = mkF m 0 #[vr x0, vi (1 : Int32)] [] := by first | (simp [entryFrame, mkF, argsToLocals, Value.category]; done) | rfl
def Q1_1 (Z : State) (a1 : Addr) (k1 : ClassId) (w0 : Int32) (w1 : Int32) (w2 : Int32) (w3 : Int32) (w4 : Int32) (w5 : Int32) (h0 : Heap) (n0 : Nat) (v : Option Value) (h : Heap) (L : List Loc) : Prop := v = some (.int (own_smp w2 w3)) ∧ Fr n0 L ∧ h = h0
set_option maxRecDepth 65536 in
set_option maxHeartbeats 40000000 in
theorem rm1_1 (l : Launch) (Z : State) (a0 : Array Value) (hw : ∀ d ∈ tables_1, d.before a0 Z = true) (ws : List Jvm.Cond) (a1 : Addr) (k1 : ClassId) (w0 : Int32) (w1 : Int32) (w2 : Int32) (w3 : Int32) (w4 : Int32) (w5 : Int32) (h0 : Heap) (n0 : Nat) (Z0 : n0 ≤ h0.size) (V0 : Arv Z h0 a1 k1 .byte (6 : Int32) [(.int w0), (.int w1), (.int w2), (.int w3), (.int w4), (.int w5)] (.int (0 : Int32))) :
    MetFree l y_0 (head1 (Jvm.Cond.code y_0 prog_1_method_5_code 2 (some .short) :: ws) ({ frames := 0, cells := 0, slots := 0, locals := 0 } : Room)) (fun a U => a = #[(.ref a1), (.int (1 : Int32))] ∧ Z.Warmed39 U.vm ∧ U.heap = h0) (fun _ _ _ _ _ => True) (fun _ U o U' => ∃ v L, o = .returned v ∧ Q1_1 Z a1 k1 w0 w1 w2 w3 w4 w5 h0 n0 v U'.heap L ∧ FrameEnd U o U' L ({ frames := 0, cells := 0, slots := 0, locals := 0 } : Room).cells ({ frames := 0, cells := 0, slots := 0, locals := 0 } : Room).slots) := by
  refine MetFree.of_bodySF (plainFor_of_name pn_1_1) hisR ?_
  intro p e s m args below meth c s₁ Bd hml0 hP hK
  obtain ⟨rfl, hZ, hh⟩ := hP
  have hx := Bd.exec
  have hby := Bd.bytes
  have hml : c.maxLocals = 2 := hml0
  have hown : s.vm.findClass "com/example/glottis/glottis/audio/Audio" = some m.cls := findClass_of_methodNamed Bd.named
  have hnm := (name_of_methodNamed Bd.named Bd.method).1
  have X0 : Stand p l e ({ frames := 0, cells := 0, slots := 0, locals := 0 } : Room) s m #[(.ref a1), (.int (1 : Int32))] below meth c s₁ [] 0 0 := Stand.of_body Bd
  have e0 : s₁.heap = h0 := by rw [← hh, Bd.state]; rfl
  have N0 := Fr.nil n0
  obtain ⟨F0, hF0⟩ : ∃ F : JFrame, F = entryFrame m #[(.ref a1), (.int (1 : Int32))] 2 := ⟨_, rfl⟩
  have pre0 : ∀ t, Steps p.tables e below (s₁.setTop F0) t → Steps p.tables e below (s₁.setTop (entryFrame m #[(.ref a1), (.int (1 : Int32))] 2)) t := fun t k => hF0 ▸ k
  have go0 : Go p e below s₁ F0 s₁ (mkF m 0 #[vr a1, vi (1 : Int32)] []) := fun t k => castTop (hF0.trans (ef_1_1 m a1)) k
  have go1 : Go p e below s₁ F0 s₁ (mkF m 4 #[vr a1, vi (1 : Int32)] [(.int (2 : Int32)), (.ref a1)]) := by
    intro t kt
    refine go0 t ?_
    refine o_aloadN X0 hx (hb hby d1_0) rfl rfl ?_
    refine o_iconst X0 hx (hb hby d1_1) (v := 2) rfl ?_
    refine o_iloadN X0 hx (hb hby d1_2) rfl ?_
    refine o_imulE X0 hx (hb hby d1_3) (v := 2) rfl ?_
    exact kt
  obtain ⟨cl2, Ar2, -, Sz2, Nn2, Hs2, -⟩ := id V0
  have hin2 : ¬ ((2 : Int32) < 0 ∨ cl2.slots.size ≤ ((2 : Int32)).toNatClampNeg) := inb_of Sz2 ⟨by decide, by decide⟩
  have hat2 : cl2.slots[((2 : Int32)).toNatClampNeg]? = some (.int w2) := Hs2.at hin2 rfl
  have go3 : Go p e below s₁ F0 s₁ (mkF m 15 #[vr a1, vi (1 : Int32)] [(.int (3 : Int32)), (.ref a1), (.int (w2 &&& (255 : Int32)))]) := by
    intro t kt
    refine go1 t ?_
    refine o_baload X0 hx hZ e0 Ar2 hin2 hat2 (hb hby d1_4) ?_
    refine o_sipush X0 hx (hb hby d1_5) (v := 255) rfl ?_
    refine o_iand X0 hx (hb hby d1_8) ?_
    refine o_aloadN X0 hx (hb hby d1_9) rfl rfl ?_
    refine o_iconst X0 hx (hb hby d1_10) (v := 2) rfl ?_
    refine o_iloadN X0 hx (hb hby d1_11) rfl ?_
    refine o_imulE X0 hx (hb hby d1_12) (v := 2) rfl ?_
    refine o_iconst X0 hx (hb hby d1_13) (v := 1) rfl ?_
    refine o_iaddE X0 hx (hb hby d1_14) (v := 3) rfl ?_
    exact kt
  obtain ⟨cl4, Ar4, -, Sz4, Nn4, Hs4, -⟩ := id V0
  have hin4 : ¬ ((3 : Int32) < 0 ∨ cl4.slots.size ≤ ((3 : Int32)).toNatClampNeg) := inb_of Sz4 ⟨by decide, by decide⟩
  have hat4 : cl4.slots[((3 : Int32)).toNatClampNeg]? = some (.int w3) := Hs4.at hin4 rfl
  have go5 : Go p e below s₁ F0 s₁ (mkF m 21 #[vr a1, vi (1 : Int32)] [(.int (((w2 &&& (255 : Int32)) ||| (w3 <<< ((8 : Int32) &&& 31))).toInt16.toInt32))]) := by
    intro t kt
    refine go3 t ?_
    refine o_baload X0 hx hZ e0 Ar4 hin4 hat4 (hb hby d1_15) ?_
    refine o_bipush X0 hx (hb hby d1_16) (v := 8) rfl ?_
    refine o_ishl X0 hx (hb hby d1_18) ?_
    refine o_ior X0 hx (hb hby d1_19) ?_
    refine o_i2s X0 hx (hb hby d1_20) ?_
    exact kt
  obtain ⟨fs, hr, hrun, hended, hW, hsame⟩ := X0.leave (v := some (.int (nar .short (((w2 &&& (255 : Int32)) ||| (w3 <<< ((8 : Int32) &&& 31))).toInt16.toInt32)))) (fun h => by rw [Bd.returns] at h; cases h)
  refine ⟨_, _, pre0 _ (go5 _ ?_), hrun, hended, _, _, rfl, ?_, ⟨_, rfl⟩, hW, hsame.mono (by decide) (by decide)⟩
  · skip
    exact retN X0 hx (t := .short) Bd.returns (by simp) (hb hby d1_21) hr
  · show Q1_1 Z a1 k1 w0 w1 w2 w3 w4 w5 h0 n0 _ s₁.heap _
    rw [e0]
    exact ⟨rfl, N0, rfl⟩

theorem pn_1_2 : plainName "com/example/glottis/glottis/audio/Audio" = true := by first | (simp [plainName, overriddenIn]; done) | decide +kernel
theorem ef_1_2 (m : MethodId) (x0 : Addr) : entryFrame m #[(.ref x0), (.int (2 : Int32))] 2 = mkF m 0 #[vr x0, vi (2 : Int32)] [] := by first | (simp [entryFrame, mkF, argsToLocals, Value.category]; done) | rfl
def Q1_2 (Z : State) (a1 : Addr) (k1 : ClassId) (w0 : Int32) (w1 : Int32) (w2 : Int32) (w3 : Int32) (w4 : Int32) (w5 : Int32) (h0 : Heap) (n0 : Nat) (v : Option Value) (h : Heap) (L : List Loc) : Prop := v = some (.int (own_smp w4 w5)) ∧ Fr n0 L ∧ h = h0
set_option maxRecDepth 65536 in
set_option maxHeartbeats 40000000 in
theorem rm1_2 (l : Launch) (Z : State) (a0 : Array Value) (hw : ∀ d ∈ tables_1, d.before a0 Z = true) (ws : List Jvm.Cond) (a1 : Addr) (k1 : ClassId) (w0 : Int32) (w1 : Int32) (w2 : Int32) (w3 : Int32) (w4 : Int32) (w5 : Int32) (h0 : Heap) (n0 : Nat) (Z0 : n0 ≤ h0.size) (V0 : Arv Z h0 a1 k1 .byte (6 : Int32) [(.int w0), (.int w1), (.int w2), (.int w3), (.int w4), (.int w5)] (.int (0 : Int32))) :
    MetFree l y_0 (head1 (Jvm.Cond.code y_0 prog_1_method_5_code 2 (some .short) :: ws) ({ frames := 0, cells := 0, slots := 0, locals := 0 } : Room)) (fun a U => a = #[(.ref a1), (.int (2 : Int32))] ∧ Z.Warmed39 U.vm ∧ U.heap = h0) (fun _ _ _ _ _ => True) (fun _ U o U' => ∃ v L, o = .returned v ∧ Q1_2 Z a1 k1 w0 w1 w2 w3 w4 w5 h0 n0 v U'.heap L ∧ FrameEnd U o U' L ({ frames := 0, cells := 0, slots := 0, locals := 0 } : Room).cells ({ frames := 0, cells := 0, slots := 0, locals := 0 } : Room).slots) := by
  refine MetFree.of_bodySF (plainFor_of_name pn_1_2) hisR ?_
  intro p e s m args below meth c s₁ Bd hml0 hP hK
  obtain ⟨rfl, hZ, hh⟩ := hP
  have hx := Bd.exec
  have hby := Bd.bytes
  have hml : c.maxLocals = 2 := hml0
  have hown : s.vm.findClass "com/example/glottis/glottis/audio/Audio" = some m.cls := findClass_of_methodNamed Bd.named
  have hnm := (name_of_methodNamed Bd.named Bd.method).1
  have X0 : Stand p l e ({ frames := 0, cells := 0, slots := 0, locals := 0 } : Room) s m #[(.ref a1), (.int (2 : Int32))] below meth c s₁ [] 0 0 := Stand.of_body Bd
  have e0 : s₁.heap = h0 := by rw [← hh, Bd.state]; rfl
  have N0 := Fr.nil n0
  obtain ⟨F0, hF0⟩ : ∃ F : JFrame, F = entryFrame m #[(.ref a1), (.int (2 : Int32))] 2 := ⟨_, rfl⟩
  have pre0 : ∀ t, Steps p.tables e below (s₁.setTop F0) t → Steps p.tables e below (s₁.setTop (entryFrame m #[(.ref a1), (.int (2 : Int32))] 2)) t := fun t k => hF0 ▸ k
  have go0 : Go p e below s₁ F0 s₁ (mkF m 0 #[vr a1, vi (2 : Int32)] []) := fun t k => castTop (hF0.trans (ef_1_2 m a1)) k
  have go1 : Go p e below s₁ F0 s₁ (mkF m 4 #[vr a1, vi (2 : Int32)] [(.int (4 : Int32)), (.ref a1)]) := by
    intro t kt
    refine go0 t ?_
    refine o_aloadN X0 hx (hb hby d1_0) rfl rfl ?_
    refine o_iconst X0 hx (hb hby d1_1) (v := 2) rfl ?_
    refine o_iloadN X0 hx (hb hby d1_2) rfl ?_
    refine o_imulE X0 hx (hb hby d1_3) (v := 4) rfl ?_
    exact kt
  obtain ⟨cl2, Ar2, -, Sz2, Nn2, Hs2, -⟩ := id V0
  have hin2 : ¬ ((4 : Int32) < 0 ∨ cl2.slots.size ≤ ((4 : Int32)).toNatClampNeg) := inb_of Sz2 ⟨by decide, by decide⟩
  have hat2 : cl2.slots[((4 : Int32)).toNatClampNeg]? = some (.int w4) := Hs2.at hin2 rfl
  have go3 : Go p e below s₁ F0 s₁ (mkF m 15 #[vr a1, vi (2 : Int32)] [(.int (5 : Int32)), (.ref a1), (.int (w4 &&& (255 : Int32)))]) := by
    intro t kt
    refine go1 t ?_
    refine o_baload X0 hx hZ e0 Ar2 hin2 hat2 (hb hby d1_4) ?_
    refine o_sipush X0 hx (hb hby d1_5) (v := 255) rfl ?_
    refine o_iand X0 hx (hb hby d1_8) ?_
    refine o_aloadN X0 hx (hb hby d1_9) rfl rfl ?_
    refine o_iconst X0 hx (hb hby d1_10) (v := 2) rfl ?_
    refine o_iloadN X0 hx (hb hby d1_11) rfl ?_
    refine o_imulE X0 hx (hb hby d1_12) (v := 4) rfl ?_
    refine o_iconst X0 hx (hb hby d1_13) (v := 1) rfl ?_
    refine o_iaddE X0 hx (hb hby d1_14) (v := 5) rfl ?_
    exact kt
  obtain ⟨cl4, Ar4, -, Sz4, Nn4, Hs4, -⟩ := id V0
  have hin4 : ¬ ((5 : Int32) < 0 ∨ cl4.slots.size ≤ ((5 : Int32)).toNatClampNeg) := inb_of Sz4 ⟨by decide, by decide⟩
  have hat4 : cl4.slots[((5 : Int32)).toNatClampNeg]? = some (.int w5) := Hs4.at hin4 rfl
  have go5 : Go p e below s₁ F0 s₁ (mkF m 21 #[vr a1, vi (2 : Int32)] [(.int (((w4 &&& (255 : Int32)) ||| (w5 <<< ((8 : Int32) &&& 31))).toInt16.toInt32))]) := by
    intro t kt
    refine go3 t ?_
    refine o_baload X0 hx hZ e0 Ar4 hin4 hat4 (hb hby d1_15) ?_
    refine o_bipush X0 hx (hb hby d1_16) (v := 8) rfl ?_
    refine o_ishl X0 hx (hb hby d1_18) ?_
    refine o_ior X0 hx (hb hby d1_19) ?_
    refine o_i2s X0 hx (hb hby d1_20) ?_
    exact kt
  obtain ⟨fs, hr, hrun, hended, hW, hsame⟩ := X0.leave (v := some (.int (nar .short (((w4 &&& (255 : Int32)) ||| (w5 <<< ((8 : Int32) &&& 31))).toInt16.toInt32)))) (fun h => by rw [Bd.returns] at h; cases h)
  refine ⟨_, _, pre0 _ (go5 _ ?_), hrun, hended, _, _, rfl, ?_, ⟨_, rfl⟩, hW, hsame.mono (by decide) (by decide)⟩
  · skip
    exact retN X0 hx (t := .short) Bd.returns (by simp) (hb hby d1_21) hr
  · show Q1_2 Z a1 k1 w0 w1 w2 w3 w4 w5 h0 n0 _ s₁.heap _
    rw [e0]
    exact ⟨rfl, N0, rfl⟩

theorem pn_0 : plainName "com/example/glottis/glottis/audio/AudioSamplePinLaw" = true := by first | (simp [plainName, overriddenIn]; done) | decide +kernel
theorem pd0_0 : parseMethodDescriptor "([BI)S" = some ⟨[(.array .byte), .int], some .short⟩ := by decide +kernel
theorem ef_0 (m : MethodId) (x0 : Int32) (x1 : Int32) (x2 : Int32) (x3 : Int32) : entryFrame m #[(.int x0), (.int x1), (.int x2), (.int x3)] maxLocals = mkF m 0 #[vi x0, vi x1, vi x2, vi x3, .unset, .unset, .unset, .unset, .unset, .unset] [] := by first | (simp [entryFrame, mkF, argsToLocals, Value.category, maxLocals]; done) | rfl
def Q0 (Z : State) (p1 : Int32) (p2 : Int32) (p3 : Int32) (p4 : Int32) (h0 : Heap) (n0 : Nat) (v : Option Value) (h : Heap) (L : List Loc) : Prop := v = some (.int (1 : Int32)) ∧ Fr n0 L
set_option maxRecDepth 65536 in
set_option maxHeartbeats 40000000 in
theorem rm0 (l : Launch) (Z : State) (a0 : Array Value) (hw : ∀ d ∈ tables_1, d.before a0 Z = true) (ws : List Jvm.Cond) (p1 : Int32) (p2 : Int32) (p3 : Int32) (p4 : Int32) (h0 : Heap) (n0 : Nat) (Z0 : n0 ≤ h0.size) :
    MetFree l x (head1 (Jvm.Cond.code x code maxLocals ret :: ws) room_1) (fun a U => a = #[(.int p1), (.int p2), (.int p3), (.int p4)] ∧ Z.Warmed39 U.vm ∧ U.heap = h0) (fun _ _ _ _ _ => True) (fun _ U o U' => ∃ v L, o = .returned v ∧ Q0 Z p1 p2 p3 p4 h0 n0 v U'.heap L ∧ FrameEnd U o U' L room_1.cells room_1.slots) := by
  refine MetFree.of_bodySF (plainFor_of_name pn_0) hisR ?_
  intro p e s m args below meth c s₁ Bd hml0 hP hK
  obtain ⟨rfl, hZ, hh⟩ := hP
  have hx := Bd.exec
  have hby := Bd.bytes
  have hml : c.maxLocals = 10 := hml0
  have hown : s.vm.findClass "com/example/glottis/glottis/audio/AudioSamplePinLaw" = some m.cls := findClass_of_methodNamed Bd.named
  have hnm := (name_of_methodNamed Bd.named Bd.method).1
  have X0 : Stand p l e room_1 s m #[(.int p1), (.int p2), (.int p3), (.int p4)] below meth c s₁ [] 0 0 := Stand.of_body Bd
  have e0 : s₁.heap = h0 := by rw [← hh, Bd.state]; rfl
  have N0 := Fr.nil n0
  obtain ⟨F0, hF0⟩ : ∃ F : JFrame, F = entryFrame m #[(.int p1), (.int p2), (.int p3), (.int p4)] maxLocals := ⟨_, rfl⟩
  have pre0 : ∀ t, Steps p.tables e below (s₁.setTop F0) t → Steps p.tables e below (s₁.setTop (entryFrame m #[(.int p1), (.int p2), (.int p3), (.int p4)] maxLocals)) t := fun t k => hF0 ▸ k
  have go0 : Go p e below s₁ F0 s₁ (mkF m 0 #[vi p1, vi p2, vi p3, vi p4, .unset, .unset, .unset, .unset, .unset, .unset] []) := fun t k => castTop (hF0.trans (ef_0 m p1 p2 p3 p4)) k
  have go1 : Go p e below s₁ F0 s₁ (mkF m 2 #[vi p1, vi p2, vi p3, vi p4, .unset, .unset, .unset, .unset, .unset, .unset] [(.int (6 : Int32))]) := by
    intro t kt
    refine go0 t ?_
    refine o_bipush X0 hx (hb hby at_0) (v := 6) rfl ?_
    exact kt
  obtain ⟨T2, h2, k2, X2, e2, E2, A2, st2⟩ := newP X0 hx hZ (own_w hw 0 rfl) e0 (g := (mkF m 2 #[vi p1, vi p2, vi p3, vi p4, .unset, .unset, .unset, .unset, .unset, .unset] [(.int (6 : Int32))])) rfl (hb hby at_2) rfl (by decide) (cap := 6) (by decide) (by decide) (by decide) (by decide)
  obtain ⟨b2, gz2⟩ : ∃ z, z = h0.size := ⟨_, rfl⟩
  rw [← gz2] at A2 st2
  have g_b2 : n0 ≤ b2 := Nat.le_trans Z0 (Nat.le_of_eq gz2.symm)
  have Z3 : n0 ≤ h2.size := Nat.le_trans Z0 E2.1
  have V2 : Arv Z h2 b2 k2 .byte (6 : Int32) [(.int (0 : Int32)), (.int (0 : Int32)), (.int (0 : Int32)), (.int (0 : Int32)), (.int (0 : Int32)), (.int (0 : Int32))] (.int (0 : Int32)) := (Arv.new A2 (by decide)).pad (pad_rep [] (.int (0 : Int32)) 6)
  have go4 : Go p e below s₁ F0 T2 (mkF m 4 #[vi p1, vi p2, vi p3, vi p4, .unset, .unset, .unset, .unset, .unset, .unset] [(.ref b2)]) := fun t k => go1 t (st2 t k)
  have go5 : Go p e below s₁ F0 T2 (mkF m 8 #[vi p1, vi p2, vi p3, vi p4, .unset, .unset, .unset, .unset, .unset, .unset] [(.int (p4.toInt8.toInt32)), (.int (0 : Int32)), (.ref b2), (.ref b2)]) := by
    intro t kt
    refine go4 t ?_
    refine o_dup X2 hx (hb hby at_4) rfl ?_
    refine o_iconst X2 hx (hb hby at_5) (v := 0) rfl ?_
    refine o_iloadN X2 hx (hb hby at_6) rfl ?_
    refine o_i2b X2 hx (hb hby at_7) ?_
    exact kt
  obtain ⟨cl6, Ar6, q6, Sz6, Nn6, Hs6, G6⟩ := id V2
  have hin6 : ¬ ((0 : Int32) < 0 ∨ cl6.slots.size ≤ ((0 : Int32)).toNatClampNeg) := inb_of Sz6 ⟨by decide, by decide⟩
  obtain ⟨T6, h6, X6, e6, W6, st6⟩ := stB X2 hx hZ e2 Ar6 (j := (0 : Int32)) hin6 (g := (mkF m 8 #[vi p1, vi p2, vi p3, vi p4, .unset, .unset, .unset, .unset, .unset, .unset] [(.int (p4.toInt8.toInt32)), (.int (0 : Int32)), (.ref b2), (.ref b2)])) rfl rfl (hb hby at_8)
  rw [own_nar_byte] at W6
  have V6 : Arv Z h6 b2 k2 .byte (6 : Int32) [(.int (p4.toInt8.toInt32)), (.int (0 : Int32)), (.int (0 : Int32)), (.int (0 : Int32)), (.int (0 : Int32)), (.int (0 : Int32))] (.int (0 : Int32)) := Arv.set Ar6 q6 Sz6 Nn6 Hs6 G6 (fits_nar_byte _) W6 0 rfl (Nat.le_of_ble_eq_true rfl)
  have Z7 : n0 ≤ h6.size := Nat.le_trans Z3 (Keep.of_wr W6).1
  have N6 := Fr.snoc X6 N0 g_b2
  have go8 : Go p e below s₁ F0 T6 (mkF m 9 #[vi p1, vi p2, vi p3, vi p4, .unset, .unset, .unset, .unset, .unset, .unset] [(.ref b2)]) := fun t k => go5 t (st6 t k)
  have go9 : Go p e below s₁ F0 T6 (mkF m 16 #[vi p1, vi p2, vi p3, vi p4, .unset, .unset, .unset, .unset, .unset, .unset] [(.int ((p4 >>> ((8 : Int32) &&& 31)).toInt8.toInt32)), (.int (1 : Int32)), (.ref b2), (.ref b2)]) := by
    intro t kt
    refine go8 t ?_
    refine o_dup X6 hx (hb hby at_9) rfl ?_
    refine o_iconst X6 hx (hb hby at_10) (v := 1) rfl ?_
    refine o_iloadN X6 hx (hb hby at_11) rfl ?_
    refine o_bipush X6 hx (hb hby at_12) (v := 8) rfl ?_
    refine o_ishr X6 hx (hb hby at_14) ?_
    refine o_i2b X6 hx (hb hby at_15) ?_
    exact kt
  obtain ⟨cl10, Ar10, q10, Sz10, Nn10, Hs10, G10⟩ := id V6
  have hin10 : ¬ ((1 : Int32) < 0 ∨ cl10.slots.size ≤ ((1 : Int32)).toNatClampNeg) := inb_of Sz10 ⟨by decide, by decide⟩
  obtain ⟨T10, h10, X10, e10, W10, st10⟩ := stB X6 hx hZ e6 Ar10 (j := (1 : Int32)) hin10 (g := (mkF m 16 #[vi p1, vi p2, vi p3, vi p4, .unset, .unset, .unset, .unset, .unset, .unset] [(.int ((p4 >>> ((8 : Int32) &&& 31)).toInt8.toInt32)), (.int (1 : Int32)), (.ref b2), (.ref b2)])) rfl rfl (hb hby at_16)
  rw [own_nar_byte] at W10
  have V10 : Arv Z h10 b2 k2 .byte (6 : Int32) [(.int (p4.toInt8.toInt32)), (.int ((p4 >>> ((8 : Int32) &&& 31)).toInt8.toInt32)), (.int (0 : Int32)), (.int (0 : Int32)), (.int (0 : Int32)), (.int (0 : Int32))] (.int (0 : Int32)) := Arv.set Ar10 q10 Sz10 Nn10 Hs10 G10 (fits_nar_byte _) W10 1 rfl (Nat.le_of_ble_eq_true rfl)
  have Z11 : n0 ≤ h10.size := Nat.le_trans Z7 (Keep.of_wr W10).1
  have N10 := Fr.snoc X10 N6 g_b2
  have go12 : Go p e below s₁ F0 T10 (mkF m 17 #[vi p1, vi p2, vi p3, vi p4, .unset, .unset, .unset, .unset, .unset, .unset] [(.ref b2)]) := fun t k => go9 t (st10 t k)
  have go13 : Go p e below s₁ F0 T10 (mkF m 24 #[vi p1, vi p2, vi p3, vi p4, .unset, .unset, .unset, .unset, .unset, .unset] [(.int ((p4 >>> ((16 : Int32) &&& 31)).toInt8.toInt32)), (.int (2 : Int32)), (.ref b2), (.ref b2)]) := by
    intro t kt
    refine go12 t ?_
    refine o_dup X10 hx (hb hby at_17) rfl ?_
    refine o_iconst X10 hx (hb hby at_18) (v := 2) rfl ?_
    refine o_iloadN X10 hx (hb hby at_19) rfl ?_
    refine o_bipush X10 hx (hb hby at_20) (v := 16) rfl ?_
    refine o_ishr X10 hx (hb hby at_22) ?_
    refine o_i2b X10 hx (hb hby at_23) ?_
    exact kt
  obtain ⟨cl14, Ar14, q14, Sz14, Nn14, Hs14, G14⟩ := id V10
  have hin14 : ¬ ((2 : Int32) < 0 ∨ cl14.slots.size ≤ ((2 : Int32)).toNatClampNeg) := inb_of Sz14 ⟨by decide, by decide⟩
  obtain ⟨T14, h14, X14, e14, W14, st14⟩ := stB X10 hx hZ e10 Ar14 (j := (2 : Int32)) hin14 (g := (mkF m 24 #[vi p1, vi p2, vi p3, vi p4, .unset, .unset, .unset, .unset, .unset, .unset] [(.int ((p4 >>> ((16 : Int32) &&& 31)).toInt8.toInt32)), (.int (2 : Int32)), (.ref b2), (.ref b2)])) rfl rfl (hb hby at_24)
  rw [own_nar_byte] at W14
  have V14 : Arv Z h14 b2 k2 .byte (6 : Int32) [(.int (p4.toInt8.toInt32)), (.int ((p4 >>> ((8 : Int32) &&& 31)).toInt8.toInt32)), (.int ((p4 >>> ((16 : Int32) &&& 31)).toInt8.toInt32)), (.int (0 : Int32)), (.int (0 : Int32)), (.int (0 : Int32))] (.int (0 : Int32)) := Arv.set Ar14 q14 Sz14 Nn14 Hs14 G14 (fits_nar_byte _) W14 2 rfl (Nat.le_of_ble_eq_true rfl)
  have Z15 : n0 ≤ h14.size := Nat.le_trans Z11 (Keep.of_wr W14).1
  have N14 := Fr.snoc X14 N10 g_b2
  have go16 : Go p e below s₁ F0 T14 (mkF m 25 #[vi p1, vi p2, vi p3, vi p4, .unset, .unset, .unset, .unset, .unset, .unset] [(.ref b2)]) := fun t k => go13 t (st14 t k)
  have go17 : Go p e below s₁ F0 T14 (mkF m 32 #[vi p1, vi p2, vi p3, vi p4, .unset, .unset, .unset, .unset, .unset, .unset] [(.int ((p4 >>> ((24 : Int32) &&& 31)).toInt8.toInt32)), (.int (3 : Int32)), (.ref b2), (.ref b2)]) := by
    intro t kt
    refine go16 t ?_
    refine o_dup X14 hx (hb hby at_25) rfl ?_
    refine o_iconst X14 hx (hb hby at_26) (v := 3) rfl ?_
    refine o_iloadN X14 hx (hb hby at_27) rfl ?_
    refine o_bipush X14 hx (hb hby at_28) (v := 24) rfl ?_
    refine o_ishr X14 hx (hb hby at_30) ?_
    refine o_i2b X14 hx (hb hby at_31) ?_
    exact kt
  obtain ⟨cl18, Ar18, q18, Sz18, Nn18, Hs18, G18⟩ := id V14
  have hin18 : ¬ ((3 : Int32) < 0 ∨ cl18.slots.size ≤ ((3 : Int32)).toNatClampNeg) := inb_of Sz18 ⟨by decide, by decide⟩
  obtain ⟨T18, h18, X18, e18, W18, st18⟩ := stB X14 hx hZ e14 Ar18 (j := (3 : Int32)) hin18 (g := (mkF m 32 #[vi p1, vi p2, vi p3, vi p4, .unset, .unset, .unset, .unset, .unset, .unset] [(.int ((p4 >>> ((24 : Int32) &&& 31)).toInt8.toInt32)), (.int (3 : Int32)), (.ref b2), (.ref b2)])) rfl rfl (hb hby at_32)
  rw [own_nar_byte] at W18
  have V18 : Arv Z h18 b2 k2 .byte (6 : Int32) [(.int (p4.toInt8.toInt32)), (.int ((p4 >>> ((8 : Int32) &&& 31)).toInt8.toInt32)), (.int ((p4 >>> ((16 : Int32) &&& 31)).toInt8.toInt32)), (.int ((p4 >>> ((24 : Int32) &&& 31)).toInt8.toInt32)), (.int (0 : Int32)), (.int (0 : Int32))] (.int (0 : Int32)) := Arv.set Ar18 q18 Sz18 Nn18 Hs18 G18 (fits_nar_byte _) W18 3 rfl (Nat.le_of_ble_eq_true rfl)
  have Z19 : n0 ≤ h18.size := Nat.le_trans Z15 (Keep.of_wr W18).1
  have N18 := Fr.snoc X18 N14 g_b2
  have go20 : Go p e below s₁ F0 T18 (mkF m 33 #[vi p1, vi p2, vi p3, vi p4, .unset, .unset, .unset, .unset, .unset, .unset] [(.ref b2)]) := fun t k => go17 t (st18 t k)
  have go21 : Go p e below s₁ F0 T18 (mkF m 39 #[vi p1, vi p2, vi p3, vi p4, .unset, .unset, .unset, .unset, .unset, .unset] [(.int ((p4 ^^^ (-1 : Int32)).toInt8.toInt32)), (.int (4 : Int32)), (.ref b2), (.ref b2)]) := by
    intro t kt
    refine go20 t ?_
    refine o_dup X18 hx (hb hby at_33) rfl ?_
    refine o_iconst X18 hx (hb hby at_34) (v := 4) rfl ?_
    refine o_iloadN X18 hx (hb hby at_35) rfl ?_
    refine o_iconst X18 hx (hb hby at_36) (v := -1) rfl ?_
    refine o_ixor X18 hx (hb hby at_37) ?_
    refine o_i2b X18 hx (hb hby at_38) ?_
    exact kt
  obtain ⟨cl22, Ar22, q22, Sz22, Nn22, Hs22, G22⟩ := id V18
  have hin22 : ¬ ((4 : Int32) < 0 ∨ cl22.slots.size ≤ ((4 : Int32)).toNatClampNeg) := inb_of Sz22 ⟨by decide, by decide⟩
  obtain ⟨T22, h22, X22, e22, W22, st22⟩ := stB X18 hx hZ e18 Ar22 (j := (4 : Int32)) hin22 (g := (mkF m 39 #[vi p1, vi p2, vi p3, vi p4, .unset, .unset, .unset, .unset, .unset, .unset] [(.int ((p4 ^^^ (-1 : Int32)).toInt8.toInt32)), (.int (4 : Int32)), (.ref b2), (.ref b2)])) rfl rfl (hb hby at_39)
  rw [own_nar_byte] at W22
  have V22 : Arv Z h22 b2 k2 .byte (6 : Int32) [(.int (p4.toInt8.toInt32)), (.int ((p4 >>> ((8 : Int32) &&& 31)).toInt8.toInt32)), (.int ((p4 >>> ((16 : Int32) &&& 31)).toInt8.toInt32)), (.int ((p4 >>> ((24 : Int32) &&& 31)).toInt8.toInt32)), (.int ((p4 ^^^ (-1 : Int32)).toInt8.toInt32)), (.int (0 : Int32))] (.int (0 : Int32)) := Arv.set Ar22 q22 Sz22 Nn22 Hs22 G22 (fits_nar_byte _) W22 4 rfl (Nat.le_of_ble_eq_true rfl)
  have Z23 : n0 ≤ h22.size := Nat.le_trans Z19 (Keep.of_wr W22).1
  have N22 := Fr.snoc X22 N18 g_b2
  have go24 : Go p e below s₁ F0 T22 (mkF m 40 #[vi p1, vi p2, vi p3, vi p4, .unset, .unset, .unset, .unset, .unset, .unset] [(.ref b2)]) := fun t k => go21 t (st22 t k)
  have go25 : Go p e below s₁ F0 T22 (mkF m 49 #[vi p1, vi p2, vi p3, vi p4, .unset, .unset, .unset, .unset, .unset, .unset] [(.int (((p4 ^^^ (-1 : Int32)) >>> ((8 : Int32) &&& 31)).toInt8.toInt32)), (.int (5 : Int32)), (.ref b2), (.ref b2)]) := by
    intro t kt
    refine go24 t ?_
    refine o_dup X22 hx (hb hby at_40) rfl ?_
    refine o_iconst X22 hx (hb hby at_41) (v := 5) rfl ?_
    refine o_iloadN X22 hx (hb hby at_42) rfl ?_
    refine o_iconst X22 hx (hb hby at_43) (v := -1) rfl ?_
    refine o_ixor X22 hx (hb hby at_44) ?_
    refine o_bipush X22 hx (hb hby at_45) (v := 8) rfl ?_
    refine o_ishr X22 hx (hb hby at_47) ?_
    refine o_i2b X22 hx (hb hby at_48) ?_
    exact kt
  obtain ⟨cl26, Ar26, q26, Sz26, Nn26, Hs26, G26⟩ := id V22
  have hin26 : ¬ ((5 : Int32) < 0 ∨ cl26.slots.size ≤ ((5 : Int32)).toNatClampNeg) := inb_of Sz26 ⟨by decide, by decide⟩
  obtain ⟨T26, h26, X26, e26, W26, st26⟩ := stB X22 hx hZ e22 Ar26 (j := (5 : Int32)) hin26 (g := (mkF m 49 #[vi p1, vi p2, vi p3, vi p4, .unset, .unset, .unset, .unset, .unset, .unset] [(.int (((p4 ^^^ (-1 : Int32)) >>> ((8 : Int32) &&& 31)).toInt8.toInt32)), (.int (5 : Int32)), (.ref b2), (.ref b2)])) rfl rfl (hb hby at_49)
  rw [own_nar_byte] at W26
  have V26 : Arv Z h26 b2 k2 .byte (6 : Int32) [(.int (p4.toInt8.toInt32)), (.int ((p4 >>> ((8 : Int32) &&& 31)).toInt8.toInt32)), (.int ((p4 >>> ((16 : Int32) &&& 31)).toInt8.toInt32)), (.int ((p4 >>> ((24 : Int32) &&& 31)).toInt8.toInt32)), (.int ((p4 ^^^ (-1 : Int32)).toInt8.toInt32)), (.int (((p4 ^^^ (-1 : Int32)) >>> ((8 : Int32) &&& 31)).toInt8.toInt32))] (.int (0 : Int32)) := Arv.set Ar26 q26 Sz26 Nn26 Hs26 G26 (fits_nar_byte _) W26 5 rfl (Nat.le_of_ble_eq_true rfl)
  have Z27 : n0 ≤ h26.size := Nat.le_trans Z23 (Keep.of_wr W26).1
  have N26 := Fr.snoc X26 N22 g_b2
  have go28 : Go p e below s₁ F0 T26 (mkF m 50 #[vi p1, vi p2, vi p3, vi p4, .unset, .unset, .unset, .unset, .unset, .unset] [(.ref b2)]) := fun t k => go25 t (st26 t k)
  have go29 : Go p e below s₁ F0 T26 (mkF m 60 #[vi p1, vi p2, vi p3, vi p4, vr b2, vi ((p3 &&& (2147483647 : Int32)) % (3 : Int32)), .unset, .unset, .unset, .unset] []) := by
    intro t kt
    refine go28 t ?_
    refine o_astore X26 hx (hb hby at_50) rfl (L' := #[vi p1, vi p2, vi p3, vi p4, vr b2, .unset, .unset, .unset, .unset, .unset]) rfl ?_
    refine o_iloadN X26 hx (hb hby at_52) rfl ?_
    refine o_ldc X26 hx hown (mvT hZ (own_w hw 1 rfl)) (hb hby at_53) ?_
    refine o_iand X26 hx (hb hby at_55) ?_
    refine o_iconst X26 hx (hb hby at_56) (v := 3) rfl ?_
    refine o_irem X26 hx (hb hby at_57) (by decide) ?_
    refine o_istore X26 hx (hb hby at_58) (L' := #[vi p1, vi p2, vi p3, vi p4, vr b2, vi ((p3 &&& (2147483647 : Int32)) % (3 : Int32)), .unset, .unset, .unset, .unset]) rfl ?_
    exact kt
  have hcs30 : ((p3 &&& (2147483647 : Int32)) % (3 : Int32)) = (0 : Int32) ∨ ((p3 &&& (2147483647 : Int32)) % (3 : Int32)) = (1 : Int32) ∨ ((p3 &&& (2147483647 : Int32)) % (3 : Int32)) = (2 : Int32) := own_3 _
  rcases hcs30 with hcs30 | hcs30 | hcs30
  · skip
    have go31 : Go p e below s₁ F0 T26 (mkF m 60 #[vi p1, vi p2, vi p3, vi p4, vr b2, vi (0 : Int32), .unset, .unset, .unset, .unset] []) := by rw [hcs30] at go29; exact go29
    have go32 : Go p e below s₁ F0 T26 (mkF m 68 #[vi p1, vi p2, vi p3, vi p4, vr b2, vi (0 : Int32), .unset, .unset, .unset, .unset] [(.int (p1.toInt8.toInt32)), (.int (0 : Int32)), (.ref b2)]) := by
      intro t kt
      refine go31 t ?_
      refine o_aload X26 hx (hb hby at_60) rfl rfl ?_
      refine o_iconst X26 hx (hb hby at_62) (v := 2) rfl ?_
      refine o_iload X26 hx (hb hby at_63) rfl ?_
      refine o_imulE X26 hx (hb hby at_65) (v := 0) rfl ?_
      refine o_iloadN X26 hx (hb hby at_66) rfl ?_
      refine o_i2b X26 hx (hb hby at_67) ?_
      exact kt
    obtain ⟨cl33, Ar33, q33, Sz33, Nn33, Hs33, G33⟩ := id V26
    have hin33 : ¬ ((0 : Int32) < 0 ∨ cl33.slots.size ≤ ((0 : Int32)).toNatClampNeg) := inb_of Sz33 ⟨by decide, by decide⟩
    obtain ⟨T33, h33, X33, e33, W33, st33⟩ := stB X26 hx hZ e26 Ar33 (j := (0 : Int32)) hin33 (g := (mkF m 68 #[vi p1, vi p2, vi p3, vi p4, vr b2, vi (0 : Int32), .unset, .unset, .unset, .unset] [(.int (p1.toInt8.toInt32)), (.int (0 : Int32)), (.ref b2)])) rfl rfl (hb hby at_68)
    rw [own_nar_byte] at W33
    have V33 : Arv Z h33 b2 k2 .byte (6 : Int32) [(.int (p1.toInt8.toInt32)), (.int ((p4 >>> ((8 : Int32) &&& 31)).toInt8.toInt32)), (.int ((p4 >>> ((16 : Int32) &&& 31)).toInt8.toInt32)), (.int ((p4 >>> ((24 : Int32) &&& 31)).toInt8.toInt32)), (.int ((p4 ^^^ (-1 : Int32)).toInt8.toInt32)), (.int (((p4 ^^^ (-1 : Int32)) >>> ((8 : Int32) &&& 31)).toInt8.toInt32))] (.int (0 : Int32)) := Arv.set Ar33 q33 Sz33 Nn33 Hs33 G33 (fits_nar_byte _) W33 0 rfl (Nat.le_of_ble_eq_true rfl)
    have Z34 : n0 ≤ h33.size := Nat.le_trans Z27 (Keep.of_wr W33).1
    have N33 := Fr.snoc X33 N26 g_b2
    have go35 : Go p e below s₁ F0 T33 (mkF m 69 #[vi p1, vi p2, vi p3, vi p4, vr b2, vi (0 : Int32), .unset, .unset, .unset, .unset] []) := fun t k => go32 t (st33 t k)
    have go36 : Go p e below s₁ F0 T33 (mkF m 79 #[vi p1, vi p2, vi p3, vi p4, vr b2, vi (0 : Int32), .unset, .unset, .unset, .unset] [(.int (p2.toInt8.toInt32)), (.int (1 : Int32)), (.ref b2)]) := by
      intro t kt
      refine go35 t ?_
      refine o_aload X33 hx (hb hby at_69) rfl rfl ?_
      refine o_iconst X33 hx (hb hby at_71) (v := 2) rfl ?_
      refine o_iload X33 hx (hb hby at_72) rfl ?_
      refine o_imulE X33 hx (hb hby at_74) (v := 0) rfl ?_
      refine o_iconst X33 hx (hb hby at_75) (v := 1) rfl ?_
      refine o_iaddE X33 hx (hb hby at_76) (v := 1) rfl ?_
      refine o_iloadN X33 hx (hb hby at_77) rfl ?_
      refine o_i2b X33 hx (hb hby at_78) ?_
      exact kt
    obtain ⟨cl37, Ar37, q37, Sz37, Nn37, Hs37, G37⟩ := id V33
    have hin37 : ¬ ((1 : Int32) < 0 ∨ cl37.slots.size ≤ ((1 : Int32)).toNatClampNeg) := inb_of Sz37 ⟨by decide, by decide⟩
    obtain ⟨T37, h37, X37, e37, W37, st37⟩ := stB X33 hx hZ e33 Ar37 (j := (1 : Int32)) hin37 (g := (mkF m 79 #[vi p1, vi p2, vi p3, vi p4, vr b2, vi (0 : Int32), .unset, .unset, .unset, .unset] [(.int (p2.toInt8.toInt32)), (.int (1 : Int32)), (.ref b2)])) rfl rfl (hb hby at_79)
    rw [own_nar_byte] at W37
    have V37 : Arv Z h37 b2 k2 .byte (6 : Int32) [(.int (p1.toInt8.toInt32)), (.int (p2.toInt8.toInt32)), (.int ((p4 >>> ((16 : Int32) &&& 31)).toInt8.toInt32)), (.int ((p4 >>> ((24 : Int32) &&& 31)).toInt8.toInt32)), (.int ((p4 ^^^ (-1 : Int32)).toInt8.toInt32)), (.int (((p4 ^^^ (-1 : Int32)) >>> ((8 : Int32) &&& 31)).toInt8.toInt32))] (.int (0 : Int32)) := Arv.set Ar37 q37 Sz37 Nn37 Hs37 G37 (fits_nar_byte _) W37 1 rfl (Nat.le_of_ble_eq_true rfl)
    have Z38 : n0 ≤ h37.size := Nat.le_trans Z34 (Keep.of_wr W37).1
    have N37 := Fr.snoc X37 N33 g_b2
    have go39 : Go p e below s₁ F0 T37 (mkF m 80 #[vi p1, vi p2, vi p3, vi p4, vr b2, vi (0 : Int32), .unset, .unset, .unset, .unset] []) := fun t k => go36 t (st37 t k)
    have go40 : Go p e below s₁ F0 T37 (mkF m 110 #[vi p1, vi p2, vi p3, vi p4, vr b2, vi (0 : Int32), vi (p1 &&& (255 : Int32)), vi (p2 &&& (255 : Int32)), vi (((p2 &&& (255 : Int32)) * (256 : Int32)) + (p1 &&& (255 : Int32))), .unset] [(.int (32767 : Int32)), (.int (((p2 &&& (255 : Int32)) * (256 : Int32)) + (p1 &&& (255 : Int32))))]) := by
      intro t kt
      refine go39 t ?_
      refine o_iloadN X37 hx (hb hby at_80) rfl ?_
      refine o_sipush X37 hx (hb hby at_81) (v := 255) rfl ?_
      refine o_iand X37 hx (hb hby at_84) ?_
      refine o_istore X37 hx (hb hby at_85) (L' := #[vi p1, vi p2, vi p3, vi p4, vr b2, vi (0 : Int32), vi (p1 &&& (255 : Int32)), .unset, .unset, .unset]) rfl ?_
      refine o_iloadN X37 hx (hb hby at_87) rfl ?_
      refine o_sipush X37 hx (hb hby at_88) (v := 255) rfl ?_
      refine o_iand X37 hx (hb hby at_91) ?_
      refine o_istore X37 hx (hb hby at_92) (L' := #[vi p1, vi p2, vi p3, vi p4, vr b2, vi (0 : Int32), vi (p1 &&& (255 : Int32)), vi (p2 &&& (255 : Int32)), .unset, .unset]) rfl ?_
      refine o_iload X37 hx (hb hby at_94) rfl ?_
      refine o_sipush X37 hx (hb hby at_96) (v := 256) rfl ?_
      refine o_imul X37 hx (hb hby at_99) ?_
      refine o_iload X37 hx (hb hby at_100) rfl ?_
      refine o_iadd X37 hx (hb hby at_102) ?_
      refine o_istore X37 hx (hb hby at_103) (L' := #[vi p1, vi p2, vi p3, vi p4, vr b2, vi (0 : Int32), vi (p1 &&& (255 : Int32)), vi (p2 &&& (255 : Int32)), vi (((p2 &&& (255 : Int32)) * (256 : Int32)) + (p1 &&& (255 : Int32))), .unset]) rfl ?_
      refine o_iload X37 hx (hb hby at_105) rfl ?_
      refine o_sipush X37 hx (hb hby at_107) (v := 32767) rfl ?_
      exact kt
    have go42 : Go p e below s₁ F0 T37 (mkF m 120 #[vi p1, vi p2, vi p3, vi p4, vr b2, vi (0 : Int32), vi (p1 &&& (255 : Int32)), vi (p2 &&& (255 : Int32)), vi (if (32767 : Int32) < (((p2 &&& (255 : Int32)) * (256 : Int32)) + (p1 &&& (255 : Int32))) then ((((p2 &&& (255 : Int32)) * (256 : Int32)) + (p1 &&& (255 : Int32))) - (65536 : Int32)) else (((p2 &&& (255 : Int32)) * (256 : Int32)) + (p1 &&& (255 : Int32)))), .unset] []) := by
      intro t kt
      refine go40 t ?_
      by_cases hm110_41 : (32767 : Int32) < (((p2 &&& (255 : Int32)) * (256 : Int32)) + (p1 &&& (255 : Int32)))
      · simp only [if_pos hm110_41] at kt
        refine o_icmpNo X37 hx (hb hby at_110) (tlt hm110_41).2.2.2 ?_
        refine o_iload X37 hx (hb hby at_113) rfl ?_
        refine o_ldc X37 hx hown (mvT hZ (own_w hw 6 rfl)) (hb hby at_115) ?_
        refine o_isub X37 hx (hb hby at_117) ?_
        refine o_istore X37 hx (hb hby at_118) (L' := #[vi p1, vi p2, vi p3, vi p4, vr b2, vi (0 : Int32), vi (p1 &&& (255 : Int32)), vi (p2 &&& (255 : Int32)), vi ((((p2 &&& (255 : Int32)) * (256 : Int32)) + (p1 &&& (255 : Int32))) - (65536 : Int32)), .unset]) rfl ?_
        exact kt
      · simp only [if_neg hm110_41] at kt
        refine o_icmpYes X37 hx (hb hby at_110) (pc' := 120) rfl (by decide) (flt hm110_41).2.2.2 ?_
        exact kt
    have go43 : Go p e below s₁ F0 T37 (mkF m 124 #[vi p1, vi p2, vi p3, vi p4, vr b2, vi (0 : Int32), vi (p1 &&& (255 : Int32)), vi (p2 &&& (255 : Int32)), vi (if (32767 : Int32) < (((p2 &&& (255 : Int32)) * (256 : Int32)) + (p1 &&& (255 : Int32))) then ((((p2 &&& (255 : Int32)) * (256 : Int32)) + (p1 &&& (255 : Int32))) - (65536 : Int32)) else (((p2 &&& (255 : Int32)) * (256 : Int32)) + (p1 &&& (255 : Int32)))), .unset] [(.int (0 : Int32)), (.ref b2)]) := by
      intro t kt
      refine go42 t ?_
      refine o_aload X37 hx (hb hby at_120) rfl rfl ?_
      refine o_iload X37 hx (hb hby at_122) rfl ?_
      exact kt
    obtain ⟨_, _, ⟨T44, L44, k44, n44⟩, -, X44, ⟨Lc44, hQ44, l44, y44, z44⟩, st44⟩ := Jvm.LawKit.callS X37 hx (y := y_0) hown (mvT hZ (own_w hw 2 rfl)) (mvT hZ (own_w hw 3 rfl)) (mvT hZ (own_w hw 4 rfl)) (mvT hZ (own_w hw 5 rfl)) (by decide) (backOf (W := 0) (rm1_0 l Z a0 hw [] b2 k2 (p1.toInt8.toInt32) (p2.toInt8.toInt32) ((p4 >>> ((16 : Int32) &&& 31)).toInt8.toInt32) ((p4 >>> ((24 : Int32) &&& 31)).toInt8.toInt32) ((p4 ^^^ (-1 : Int32)).toInt8.toInt32) (((p4 ^^^ (-1 : Int32)) >>> ((8 : Int32) &&& 31)).toInt8.toInt32) h37 n0 Z38 V37) hZ (own_w hw 5 rfl) (own_w hw 4 rfl) (by decide) (by decide)) (g := (mkF m 124 #[vi p1, vi p2, vi p3, vi p4, vr b2, vi (0 : Int32), vi (p1 &&& (255 : Int32)), vi (p2 &&& (255 : Int32)), vi (if (32767 : Int32) < (((p2 &&& (255 : Int32)) * (256 : Int32)) + (p1 &&& (255 : Int32))) then ((((p2 &&& (255 : Int32)) * (256 : Int32)) + (p1 &&& (255 : Int32))) - (65536 : Int32)) else (((p2 &&& (255 : Int32)) * (256 : Int32)) + (p1 &&& (255 : Int32)))), .unset] [(.int (0 : Int32)), (.ref b2)])) rfl (by rw [hml]; rfl) (argsL := [(.ref b2), (.int (0 : Int32))]) (rest := []) (lenOf pd0_0 rfl) rfl (by show 2 * 0 + _ ≤ _; exact Nat.le_of_eq rfl) (hb hby at_124) (fun _ _ => ⟨rfl, e37, (by decide : 1 + 0 ≤ _), (by decide : 6 + 0 ≤ _)⟩)
    dsimp only [Pt.U, Pt.locs, Pt.cells, Pt.slots] at X44 l44 y44 z44 st44 hQ44
    subst l44 y44 z44
    obtain ⟨rfl, Nq44, eh44⟩ := hQ44
    have N44 := Fr.app N37 Nq44
    have go45 : Go p e below s₁ F0 T44 (mkF m 127 #[vi p1, vi p2, vi p3, vi p4, vr b2, vi (0 : Int32), vi (p1 &&& (255 : Int32)), vi (p2 &&& (255 : Int32)), vi (if (32767 : Int32) < (((p2 &&& (255 : Int32)) * (256 : Int32)) + (p1 &&& (255 : Int32))) then ((((p2 &&& (255 : Int32)) * (256 : Int32)) + (p1 &&& (255 : Int32))) - (65536 : Int32)) else (((p2 &&& (255 : Int32)) * (256 : Int32)) + (p1 &&& (255 : Int32)))), .unset] [(.int (own_smp (p1.toInt8.toInt32) (p2.toInt8.toInt32)))]) := fun t k => go43 t (st44 t k)
    have go47 : Go p e below s₁ F0 T44 (mkF m 133 #[vi p1, vi p2, vi p3, vi p4, vr b2, vi (0 : Int32), vi (p1 &&& (255 : Int32)), vi (p2 &&& (255 : Int32)), vi (if (32767 : Int32) < (((p2 &&& (255 : Int32)) * (256 : Int32)) + (p1 &&& (255 : Int32))) then ((((p2 &&& (255 : Int32)) * (256 : Int32)) + (p1 &&& (255 : Int32))) - (65536 : Int32)) else (((p2 &&& (255 : Int32)) * (256 : Int32)) + (p1 &&& (255 : Int32)))), vi (own_smp (p1.toInt8.toInt32) (p2.toInt8.toInt32))] [(.int (if (32767 : Int32) < (((p2 &&& (255 : Int32)) * (256 : Int32)) + (p1 &&& (255 : Int32))) then ((((p2 &&& (255 : Int32)) * (256 : Int32)) + (p1 &&& (255 : Int32))) - (65536 : Int32)) else (((p2 &&& (255 : Int32)) * (256 : Int32)) + (p1 &&& (255 : Int32))))), (.int (own_smp (p1.toInt8.toInt32) (p2.toInt8.toInt32)))]) := by
      intro t kt
      refine go45 t ?_
      refine o_istore X44 hx (hb hby at_127) (L' := #[vi p1, vi p2, vi p3, vi p4, vr b2, vi (0 : Int32), vi (p1 &&& (255 : Int32)), vi (p2 &&& (255 : Int32)), vi (if (32767 : Int32) < (((p2 &&& (255 : Int32)) * (256 : Int32)) + (p1 &&& (255 : Int32))) then ((((p2 &&& (255 : Int32)) * (256 : Int32)) + (p1 &&& (255 : Int32))) - (65536 : Int32)) else (((p2 &&& (255 : Int32)) * (256 : Int32)) + (p1 &&& (255 : Int32)))), vi (own_smp (p1.toInt8.toInt32) (p2.toInt8.toInt32))]) rfl ?_
      refine o_iload X44 hx (hb hby at_129) rfl ?_
      refine o_iload X44 hx (hb hby at_131) rfl ?_
      exact kt
    have hd46 : (own_smp (p1.toInt8.toInt32) (p2.toInt8.toInt32)) = (if (32767 : Int32) < (((p2 &&& (255 : Int32)) * (256 : Int32)) + (p1 &&& (255 : Int32))) then ((((p2 &&& (255 : Int32)) * (256 : Int32)) + (p1 &&& (255 : Int32))) - (65536 : Int32)) else (((p2 &&& (255 : Int32)) * (256 : Int32)) + (p1 &&& (255 : Int32)))) := own_law _ _
    have go48 : Go p e below s₁ F0 T44 (mkF m 141 #[vi p1, vi p2, vi p3, vi p4, vr b2, vi (0 : Int32), vi (p1 &&& (255 : Int32)), vi (p2 &&& (255 : Int32)), vi (if (32767 : Int32) < (((p2 &&& (255 : Int32)) * (256 : Int32)) + (p1 &&& (255 : Int32))) then ((((p2 &&& (255 : Int32)) * (256 : Int32)) + (p1 &&& (255 : Int32))) - (65536 : Int32)) else (((p2 &&& (255 : Int32)) * (256 : Int32)) + (p1 &&& (255 : Int32)))), vi (own_smp (p1.toInt8.toInt32) (p2.toInt8.toInt32))] [(.int (1 : Int32))]) := by
      intro t kt
      refine go47 t ?_
      refine o_icmpNo X44 hx (hb hby at_133) (teq hd46).2 ?_
      refine o_iconst X44 hx (hb hby at_136) (v := 1) rfl ?_
      refine o_goto X44 hx (hb hby at_137) (pc' := 141) rfl (by decide) ?_
      exact kt
    obtain ⟨fs, hr, hrun, hended, hW, hsame⟩ := X44.leave (v := some (.int (1 : Int32))) (fun h => by rw [Bd.returns] at h; cases h)
    refine ⟨_, _, pre0 _ (go48 _ ?_), hrun, hended, _, _, rfl, ?_, ⟨_, rfl⟩, hW, hsame.mono (by decide) (by decide)⟩
    · skip
      exact retN X44 hx (t := .boolean) Bd.returns (by simp) (hb hby at_141) hr
    · show Q0 Z p1 p2 p3 p4 h0 n0 _ T44.heap _
      rw [eh44]
      exact ⟨rfl, N44⟩
  · skip
    have go49 : Go p e below s₁ F0 T26 (mkF m 60 #[vi p1, vi p2, vi p3, vi p4, vr b2, vi (1 : Int32), .unset, .unset, .unset, .unset] []) := by rw [hcs30] at go29; exact go29
    have go50 : Go p e below s₁ F0 T26 (mkF m 68 #[vi p1, vi p2, vi p3, vi p4, vr b2, vi (1 : Int32), .unset, .unset, .unset, .unset] [(.int (p1.toInt8.toInt32)), (.int (2 : Int32)), (.ref b2)]) := by
      intro t kt
      refine go49 t ?_
      refine o_aload X26 hx (hb hby at_60) rfl rfl ?_
      refine o_iconst X26 hx (hb hby at_62) (v := 2) rfl ?_
      refine o_iload X26 hx (hb hby at_63) rfl ?_
      refine o_imulE X26 hx (hb hby at_65) (v := 2) rfl ?_
      refine o_iloadN X26 hx (hb hby at_66) rfl ?_
      refine o_i2b X26 hx (hb hby at_67) ?_
      exact kt
    obtain ⟨cl51, Ar51, q51, Sz51, Nn51, Hs51, G51⟩ := id V26
    have hin51 : ¬ ((2 : Int32) < 0 ∨ cl51.slots.size ≤ ((2 : Int32)).toNatClampNeg) := inb_of Sz51 ⟨by decide, by decide⟩
    obtain ⟨T51, h51, X51, e51, W51, st51⟩ := stB X26 hx hZ e26 Ar51 (j := (2 : Int32)) hin51 (g := (mkF m 68 #[vi p1, vi p2, vi p3, vi p4, vr b2, vi (1 : Int32), .unset, .unset, .unset, .unset] [(.int (p1.toInt8.toInt32)), (.int (2 : Int32)), (.ref b2)])) rfl rfl (hb hby at_68)
    rw [own_nar_byte] at W51
    have V51 : Arv Z h51 b2 k2 .byte (6 : Int32) [(.int (p4.toInt8.toInt32)), (.int ((p4 >>> ((8 : Int32) &&& 31)).toInt8.toInt32)), (.int (p1.toInt8.toInt32)), (.int ((p4 >>> ((24 : Int32) &&& 31)).toInt8.toInt32)), (.int ((p4 ^^^ (-1 : Int32)).toInt8.toInt32)), (.int (((p4 ^^^ (-1 : Int32)) >>> ((8 : Int32) &&& 31)).toInt8.toInt32))] (.int (0 : Int32)) := Arv.set Ar51 q51 Sz51 Nn51 Hs51 G51 (fits_nar_byte _) W51 2 rfl (Nat.le_of_ble_eq_true rfl)
    have Z52 : n0 ≤ h51.size := Nat.le_trans Z27 (Keep.of_wr W51).1
    have N51 := Fr.snoc X51 N26 g_b2
    have go53 : Go p e below s₁ F0 T51 (mkF m 69 #[vi p1, vi p2, vi p3, vi p4, vr b2, vi (1 : Int32), .unset, .unset, .unset, .unset] []) := fun t k => go50 t (st51 t k)
    have go54 : Go p e below s₁ F0 T51 (mkF m 79 #[vi p1, vi p2, vi p3, vi p4, vr b2, vi (1 : Int32), .unset, .unset, .unset, .unset] [(.int (p2.toInt8.toInt32)), (.int (3 : Int32)), (.ref b2)]) := by
      intro t kt
      refine go53 t ?_
      refine o_aload X51 hx (hb hby at_69) rfl rfl ?_
      refine o_iconst X51 hx (hb hby at_71) (v := 2) rfl ?_
      refine o_iload X51 hx (hb hby at_72) rfl ?_
      refine o_imulE X51 hx (hb hby at_74) (v := 2) rfl ?_
      refine o_iconst X51 hx (hb hby at_75) (v := 1) rfl ?_
      refine o_iaddE X51 hx (hb hby at_76) (v := 3) rfl ?_
      refine o_iloadN X51 hx (hb hby at_77) rfl ?_
      refine o_i2b X51 hx (hb hby at_78) ?_
      exact kt
    obtain ⟨cl55, Ar55, q55, Sz55, Nn55, Hs55, G55⟩ := id V51
    have hin55 : ¬ ((3 : Int32) < 0 ∨ cl55.slots.size ≤ ((3 : Int32)).toNatClampNeg) := inb_of Sz55 ⟨by decide, by decide⟩
    obtain ⟨T55, h55, X55, e55, W55, st55⟩ := stB X51 hx hZ e51 Ar55 (j := (3 : Int32)) hin55 (g := (mkF m 79 #[vi p1, vi p2, vi p3, vi p4, vr b2, vi (1 : Int32), .unset, .unset, .unset, .unset] [(.int (p2.toInt8.toInt32)), (.int (3 : Int32)), (.ref b2)])) rfl rfl (hb hby at_79)
    rw [own_nar_byte] at W55
    have V55 : Arv Z h55 b2 k2 .byte (6 : Int32) [(.int (p4.toInt8.toInt32)), (.int ((p4 >>> ((8 : Int32) &&& 31)).toInt8.toInt32)), (.int (p1.toInt8.toInt32)), (.int (p2.toInt8.toInt32)), (.int ((p4 ^^^ (-1 : Int32)).toInt8.toInt32)), (.int (((p4 ^^^ (-1 : Int32)) >>> ((8 : Int32) &&& 31)).toInt8.toInt32))] (.int (0 : Int32)) := Arv.set Ar55 q55 Sz55 Nn55 Hs55 G55 (fits_nar_byte _) W55 3 rfl (Nat.le_of_ble_eq_true rfl)
    have Z56 : n0 ≤ h55.size := Nat.le_trans Z52 (Keep.of_wr W55).1
    have N55 := Fr.snoc X55 N51 g_b2
    have go57 : Go p e below s₁ F0 T55 (mkF m 80 #[vi p1, vi p2, vi p3, vi p4, vr b2, vi (1 : Int32), .unset, .unset, .unset, .unset] []) := fun t k => go54 t (st55 t k)
    have go58 : Go p e below s₁ F0 T55 (mkF m 110 #[vi p1, vi p2, vi p3, vi p4, vr b2, vi (1 : Int32), vi (p1 &&& (255 : Int32)), vi (p2 &&& (255 : Int32)), vi (((p2 &&& (255 : Int32)) * (256 : Int32)) + (p1 &&& (255 : Int32))), .unset] [(.int (32767 : Int32)), (.int (((p2 &&& (255 : Int32)) * (256 : Int32)) + (p1 &&& (255 : Int32))))]) := by
      intro t kt
      refine go57 t ?_
      refine o_iloadN X55 hx (hb hby at_80) rfl ?_
      refine o_sipush X55 hx (hb hby at_81) (v := 255) rfl ?_
      refine o_iand X55 hx (hb hby at_84) ?_
      refine o_istore X55 hx (hb hby at_85) (L' := #[vi p1, vi p2, vi p3, vi p4, vr b2, vi (1 : Int32), vi (p1 &&& (255 : Int32)), .unset, .unset, .unset]) rfl ?_
      refine o_iloadN X55 hx (hb hby at_87) rfl ?_
      refine o_sipush X55 hx (hb hby at_88) (v := 255) rfl ?_
      refine o_iand X55 hx (hb hby at_91) ?_
      refine o_istore X55 hx (hb hby at_92) (L' := #[vi p1, vi p2, vi p3, vi p4, vr b2, vi (1 : Int32), vi (p1 &&& (255 : Int32)), vi (p2 &&& (255 : Int32)), .unset, .unset]) rfl ?_
      refine o_iload X55 hx (hb hby at_94) rfl ?_
      refine o_sipush X55 hx (hb hby at_96) (v := 256) rfl ?_
      refine o_imul X55 hx (hb hby at_99) ?_
      refine o_iload X55 hx (hb hby at_100) rfl ?_
      refine o_iadd X55 hx (hb hby at_102) ?_
      refine o_istore X55 hx (hb hby at_103) (L' := #[vi p1, vi p2, vi p3, vi p4, vr b2, vi (1 : Int32), vi (p1 &&& (255 : Int32)), vi (p2 &&& (255 : Int32)), vi (((p2 &&& (255 : Int32)) * (256 : Int32)) + (p1 &&& (255 : Int32))), .unset]) rfl ?_
      refine o_iload X55 hx (hb hby at_105) rfl ?_
      refine o_sipush X55 hx (hb hby at_107) (v := 32767) rfl ?_
      exact kt
    have go60 : Go p e below s₁ F0 T55 (mkF m 120 #[vi p1, vi p2, vi p3, vi p4, vr b2, vi (1 : Int32), vi (p1 &&& (255 : Int32)), vi (p2 &&& (255 : Int32)), vi (if (32767 : Int32) < (((p2 &&& (255 : Int32)) * (256 : Int32)) + (p1 &&& (255 : Int32))) then ((((p2 &&& (255 : Int32)) * (256 : Int32)) + (p1 &&& (255 : Int32))) - (65536 : Int32)) else (((p2 &&& (255 : Int32)) * (256 : Int32)) + (p1 &&& (255 : Int32)))), .unset] []) := by
      intro t kt
      refine go58 t ?_
      by_cases hm110_59 : (32767 : Int32) < (((p2 &&& (255 : Int32)) * (256 : Int32)) + (p1 &&& (255 : Int32)))
      · simp only [if_pos hm110_59] at kt
        refine o_icmpNo X55 hx (hb hby at_110) (tlt hm110_59).2.2.2 ?_
        refine o_iload X55 hx (hb hby at_113) rfl ?_
        refine o_ldc X55 hx hown (mvT hZ (own_w hw 6 rfl)) (hb hby at_115) ?_
        refine o_isub X55 hx (hb hby at_117) ?_
        refine o_istore X55 hx (hb hby at_118) (L' := #[vi p1, vi p2, vi p3, vi p4, vr b2, vi (1 : Int32), vi (p1 &&& (255 : Int32)), vi (p2 &&& (255 : Int32)), vi ((((p2 &&& (255 : Int32)) * (256 : Int32)) + (p1 &&& (255 : Int32))) - (65536 : Int32)), .unset]) rfl ?_
        exact kt
      · simp only [if_neg hm110_59] at kt
        refine o_icmpYes X55 hx (hb hby at_110) (pc' := 120) rfl (by decide) (flt hm110_59).2.2.2 ?_
        exact kt
    have go61 : Go p e below s₁ F0 T55 (mkF m 124 #[vi p1, vi p2, vi p3, vi p4, vr b2, vi (1 : Int32), vi (p1 &&& (255 : Int32)), vi (p2 &&& (255 : Int32)), vi (if (32767 : Int32) < (((p2 &&& (255 : Int32)) * (256 : Int32)) + (p1 &&& (255 : Int32))) then ((((p2 &&& (255 : Int32)) * (256 : Int32)) + (p1 &&& (255 : Int32))) - (65536 : Int32)) else (((p2 &&& (255 : Int32)) * (256 : Int32)) + (p1 &&& (255 : Int32)))), .unset] [(.int (1 : Int32)), (.ref b2)]) := by
      intro t kt
      refine go60 t ?_
      refine o_aload X55 hx (hb hby at_120) rfl rfl ?_
      refine o_iload X55 hx (hb hby at_122) rfl ?_
      exact kt
    obtain ⟨_, _, ⟨T62, L62, k62, n62⟩, -, X62, ⟨Lc62, hQ62, l62, y62, z62⟩, st62⟩ := Jvm.LawKit.callS X55 hx (y := y_0) hown (mvT hZ (own_w hw 2 rfl)) (mvT hZ (own_w hw 3 rfl)) (mvT hZ (own_w hw 4 rfl)) (mvT hZ (own_w hw 5 rfl)) (by decide) (backOf (W := 0) (rm1_1 l Z a0 hw [] b2 k2 (p4.toInt8.toInt32) ((p4 >>> ((8 : Int32) &&& 31)).toInt8.toInt32) (p1.toInt8.toInt32) (p2.toInt8.toInt32) ((p4 ^^^ (-1 : Int32)).toInt8.toInt32) (((p4 ^^^ (-1 : Int32)) >>> ((8 : Int32) &&& 31)).toInt8.toInt32) h55 n0 Z56 V55) hZ (own_w hw 5 rfl) (own_w hw 4 rfl) (by decide) (by decide)) (g := (mkF m 124 #[vi p1, vi p2, vi p3, vi p4, vr b2, vi (1 : Int32), vi (p1 &&& (255 : Int32)), vi (p2 &&& (255 : Int32)), vi (if (32767 : Int32) < (((p2 &&& (255 : Int32)) * (256 : Int32)) + (p1 &&& (255 : Int32))) then ((((p2 &&& (255 : Int32)) * (256 : Int32)) + (p1 &&& (255 : Int32))) - (65536 : Int32)) else (((p2 &&& (255 : Int32)) * (256 : Int32)) + (p1 &&& (255 : Int32)))), .unset] [(.int (1 : Int32)), (.ref b2)])) rfl (by rw [hml]; rfl) (argsL := [(.ref b2), (.int (1 : Int32))]) (rest := []) (lenOf pd0_0 rfl) rfl (by show 2 * 0 + _ ≤ _; exact Nat.le_of_eq rfl) (hb hby at_124) (fun _ _ => ⟨rfl, e55, (by decide : 1 + 0 ≤ _), (by decide : 6 + 0 ≤ _)⟩)
    dsimp only [Pt.U, Pt.locs, Pt.cells, Pt.slots] at X62 l62 y62 z62 st62 hQ62
    subst l62 y62 z62
    obtain ⟨rfl, Nq62, eh62⟩ := hQ62
    have N62 := Fr.app N55 Nq62
    have go63 : Go p e below s₁ F0 T62 (mkF m 127 #[vi p1, vi p2, vi p3, vi p4, vr b2, vi (1 : Int32), vi (p1 &&& (255 : Int32)), vi (p2 &&& (255 : Int32)), vi (if (32767 : Int32) < (((p2 &&& (255 : Int32)) * (256 : Int32)) + (p1 &&& (255 : Int32))) then ((((p2 &&& (255 : Int32)) * (256 : Int32)) + (p1 &&& (255 : Int32))) - (65536 : Int32)) else (((p2 &&& (255 : Int32)) * (256 : Int32)) + (p1 &&& (255 : Int32)))), .unset] [(.int (own_smp (p1.toInt8.toInt32) (p2.toInt8.toInt32)))]) := fun t k => go61 t (st62 t k)
    have go65 : Go p e below s₁ F0 T62 (mkF m 133 #[vi p1, vi p2, vi p3, vi p4, vr b2, vi (1 : Int32), vi (p1 &&& (255 : Int32)), vi (p2 &&& (255 : Int32)), vi (if (32767 : Int32) < (((p2 &&& (255 : Int32)) * (256 : Int32)) + (p1 &&& (255 : Int32))) then ((((p2 &&& (255 : Int32)) * (256 : Int32)) + (p1 &&& (255 : Int32))) - (65536 : Int32)) else (((p2 &&& (255 : Int32)) * (256 : Int32)) + (p1 &&& (255 : Int32)))), vi (own_smp (p1.toInt8.toInt32) (p2.toInt8.toInt32))] [(.int (if (32767 : Int32) < (((p2 &&& (255 : Int32)) * (256 : Int32)) + (p1 &&& (255 : Int32))) then ((((p2 &&& (255 : Int32)) * (256 : Int32)) + (p1 &&& (255 : Int32))) - (65536 : Int32)) else (((p2 &&& (255 : Int32)) * (256 : Int32)) + (p1 &&& (255 : Int32))))), (.int (own_smp (p1.toInt8.toInt32) (p2.toInt8.toInt32)))]) := by
      intro t kt
      refine go63 t ?_
      refine o_istore X62 hx (hb hby at_127) (L' := #[vi p1, vi p2, vi p3, vi p4, vr b2, vi (1 : Int32), vi (p1 &&& (255 : Int32)), vi (p2 &&& (255 : Int32)), vi (if (32767 : Int32) < (((p2 &&& (255 : Int32)) * (256 : Int32)) + (p1 &&& (255 : Int32))) then ((((p2 &&& (255 : Int32)) * (256 : Int32)) + (p1 &&& (255 : Int32))) - (65536 : Int32)) else (((p2 &&& (255 : Int32)) * (256 : Int32)) + (p1 &&& (255 : Int32)))), vi (own_smp (p1.toInt8.toInt32) (p2.toInt8.toInt32))]) rfl ?_
      refine o_iload X62 hx (hb hby at_129) rfl ?_
      refine o_iload X62 hx (hb hby at_131) rfl ?_
      exact kt
    have hd64 : (own_smp (p1.toInt8.toInt32) (p2.toInt8.toInt32)) = (if (32767 : Int32) < (((p2 &&& (255 : Int32)) * (256 : Int32)) + (p1 &&& (255 : Int32))) then ((((p2 &&& (255 : Int32)) * (256 : Int32)) + (p1 &&& (255 : Int32))) - (65536 : Int32)) else (((p2 &&& (255 : Int32)) * (256 : Int32)) + (p1 &&& (255 : Int32)))) := own_law _ _
    have go66 : Go p e below s₁ F0 T62 (mkF m 141 #[vi p1, vi p2, vi p3, vi p4, vr b2, vi (1 : Int32), vi (p1 &&& (255 : Int32)), vi (p2 &&& (255 : Int32)), vi (if (32767 : Int32) < (((p2 &&& (255 : Int32)) * (256 : Int32)) + (p1 &&& (255 : Int32))) then ((((p2 &&& (255 : Int32)) * (256 : Int32)) + (p1 &&& (255 : Int32))) - (65536 : Int32)) else (((p2 &&& (255 : Int32)) * (256 : Int32)) + (p1 &&& (255 : Int32)))), vi (own_smp (p1.toInt8.toInt32) (p2.toInt8.toInt32))] [(.int (1 : Int32))]) := by
      intro t kt
      refine go65 t ?_
      refine o_icmpNo X62 hx (hb hby at_133) (teq hd64).2 ?_
      refine o_iconst X62 hx (hb hby at_136) (v := 1) rfl ?_
      refine o_goto X62 hx (hb hby at_137) (pc' := 141) rfl (by decide) ?_
      exact kt
    obtain ⟨fs, hr, hrun, hended, hW, hsame⟩ := X62.leave (v := some (.int (1 : Int32))) (fun h => by rw [Bd.returns] at h; cases h)
    refine ⟨_, _, pre0 _ (go66 _ ?_), hrun, hended, _, _, rfl, ?_, ⟨_, rfl⟩, hW, hsame.mono (by decide) (by decide)⟩
    · skip
      exact retN X62 hx (t := .boolean) Bd.returns (by simp) (hb hby at_141) hr
    · show Q0 Z p1 p2 p3 p4 h0 n0 _ T62.heap _
      rw [eh62]
      exact ⟨rfl, N62⟩
  · skip
    have go67 : Go p e below s₁ F0 T26 (mkF m 60 #[vi p1, vi p2, vi p3, vi p4, vr b2, vi (2 : Int32), .unset, .unset, .unset, .unset] []) := by rw [hcs30] at go29; exact go29
    have go68 : Go p e below s₁ F0 T26 (mkF m 68 #[vi p1, vi p2, vi p3, vi p4, vr b2, vi (2 : Int32), .unset, .unset, .unset, .unset] [(.int (p1.toInt8.toInt32)), (.int (4 : Int32)), (.ref b2)]) := by
      intro t kt
      refine go67 t ?_
      refine o_aload X26 hx (hb hby at_60) rfl rfl ?_
      refine o_iconst X26 hx (hb hby at_62) (v := 2) rfl ?_
      refine o_iload X26 hx (hb hby at_63) rfl ?_
      refine o_imulE X26 hx (hb hby at_65) (v := 4) rfl ?_
      refine o_iloadN X26 hx (hb hby at_66) rfl ?_
      refine o_i2b X26 hx (hb hby at_67) ?_
      exact kt
    obtain ⟨cl69, Ar69, q69, Sz69, Nn69, Hs69, G69⟩ := id V26
    have hin69 : ¬ ((4 : Int32) < 0 ∨ cl69.slots.size ≤ ((4 : Int32)).toNatClampNeg) := inb_of Sz69 ⟨by decide, by decide⟩
    obtain ⟨T69, h69, X69, e69, W69, st69⟩ := stB X26 hx hZ e26 Ar69 (j := (4 : Int32)) hin69 (g := (mkF m 68 #[vi p1, vi p2, vi p3, vi p4, vr b2, vi (2 : Int32), .unset, .unset, .unset, .unset] [(.int (p1.toInt8.toInt32)), (.int (4 : Int32)), (.ref b2)])) rfl rfl (hb hby at_68)
    rw [own_nar_byte] at W69
    have V69 : Arv Z h69 b2 k2 .byte (6 : Int32) [(.int (p4.toInt8.toInt32)), (.int ((p4 >>> ((8 : Int32) &&& 31)).toInt8.toInt32)), (.int ((p4 >>> ((16 : Int32) &&& 31)).toInt8.toInt32)), (.int ((p4 >>> ((24 : Int32) &&& 31)).toInt8.toInt32)), (.int (p1.toInt8.toInt32)), (.int (((p4 ^^^ (-1 : Int32)) >>> ((8 : Int32) &&& 31)).toInt8.toInt32))] (.int (0 : Int32)) := Arv.set Ar69 q69 Sz69 Nn69 Hs69 G69 (fits_nar_byte _) W69 4 rfl (Nat.le_of_ble_eq_true rfl)
    have Z70 : n0 ≤ h69.size := Nat.le_trans Z27 (Keep.of_wr W69).1
    have N69 := Fr.snoc X69 N26 g_b2
    have go71 : Go p e below s₁ F0 T69 (mkF m 69 #[vi p1, vi p2, vi p3, vi p4, vr b2, vi (2 : Int32), .unset, .unset, .unset, .unset] []) := fun t k => go68 t (st69 t k)
    have go72 : Go p e below s₁ F0 T69 (mkF m 79 #[vi p1, vi p2, vi p3, vi p4, vr b2, vi (2 : Int32), .unset, .unset, .unset, .unset] [(.int (p2.toInt8.toInt32)), (.int (5 : Int32)), (.ref b2)]) := by
      intro t kt
      refine go71 t ?_
      refine o_aload X69 hx (hb hby at_69) rfl rfl ?_
      refine o_iconst X69 hx (hb hby at_71) (v := 2) rfl ?_
      refine o_iload X69 hx (hb hby at_72) rfl ?_
      refine o_imulE X69 hx (hb hby at_74) (v := 4) rfl ?_
      refine o_iconst X69 hx (hb hby at_75) (v := 1) rfl ?_
      refine o_iaddE X69 hx (hb hby at_76) (v := 5) rfl ?_
      refine o_iloadN X69 hx (hb hby at_77) rfl ?_
      refine o_i2b X69 hx (hb hby at_78) ?_
      exact kt
    obtain ⟨cl73, Ar73, q73, Sz73, Nn73, Hs73, G73⟩ := id V69
    have hin73 : ¬ ((5 : Int32) < 0 ∨ cl73.slots.size ≤ ((5 : Int32)).toNatClampNeg) := inb_of Sz73 ⟨by decide, by decide⟩
    obtain ⟨T73, h73, X73, e73, W73, st73⟩ := stB X69 hx hZ e69 Ar73 (j := (5 : Int32)) hin73 (g := (mkF m 79 #[vi p1, vi p2, vi p3, vi p4, vr b2, vi (2 : Int32), .unset, .unset, .unset, .unset] [(.int (p2.toInt8.toInt32)), (.int (5 : Int32)), (.ref b2)])) rfl rfl (hb hby at_79)
    rw [own_nar_byte] at W73
    have V73 : Arv Z h73 b2 k2 .byte (6 : Int32) [(.int (p4.toInt8.toInt32)), (.int ((p4 >>> ((8 : Int32) &&& 31)).toInt8.toInt32)), (.int ((p4 >>> ((16 : Int32) &&& 31)).toInt8.toInt32)), (.int ((p4 >>> ((24 : Int32) &&& 31)).toInt8.toInt32)), (.int (p1.toInt8.toInt32)), (.int (p2.toInt8.toInt32))] (.int (0 : Int32)) := Arv.set Ar73 q73 Sz73 Nn73 Hs73 G73 (fits_nar_byte _) W73 5 rfl (Nat.le_of_ble_eq_true rfl)
    have Z74 : n0 ≤ h73.size := Nat.le_trans Z70 (Keep.of_wr W73).1
    have N73 := Fr.snoc X73 N69 g_b2
    have go75 : Go p e below s₁ F0 T73 (mkF m 80 #[vi p1, vi p2, vi p3, vi p4, vr b2, vi (2 : Int32), .unset, .unset, .unset, .unset] []) := fun t k => go72 t (st73 t k)
    have go76 : Go p e below s₁ F0 T73 (mkF m 110 #[vi p1, vi p2, vi p3, vi p4, vr b2, vi (2 : Int32), vi (p1 &&& (255 : Int32)), vi (p2 &&& (255 : Int32)), vi (((p2 &&& (255 : Int32)) * (256 : Int32)) + (p1 &&& (255 : Int32))), .unset] [(.int (32767 : Int32)), (.int (((p2 &&& (255 : Int32)) * (256 : Int32)) + (p1 &&& (255 : Int32))))]) := by
      intro t kt
      refine go75 t ?_
      refine o_iloadN X73 hx (hb hby at_80) rfl ?_
      refine o_sipush X73 hx (hb hby at_81) (v := 255) rfl ?_
      refine o_iand X73 hx (hb hby at_84) ?_
      refine o_istore X73 hx (hb hby at_85) (L' := #[vi p1, vi p2, vi p3, vi p4, vr b2, vi (2 : Int32), vi (p1 &&& (255 : Int32)), .unset, .unset, .unset]) rfl ?_
      refine o_iloadN X73 hx (hb hby at_87) rfl ?_
      refine o_sipush X73 hx (hb hby at_88) (v := 255) rfl ?_
      refine o_iand X73 hx (hb hby at_91) ?_
      refine o_istore X73 hx (hb hby at_92) (L' := #[vi p1, vi p2, vi p3, vi p4, vr b2, vi (2 : Int32), vi (p1 &&& (255 : Int32)), vi (p2 &&& (255 : Int32)), .unset, .unset]) rfl ?_
      refine o_iload X73 hx (hb hby at_94) rfl ?_
      refine o_sipush X73 hx (hb hby at_96) (v := 256) rfl ?_
      refine o_imul X73 hx (hb hby at_99) ?_
      refine o_iload X73 hx (hb hby at_100) rfl ?_
      refine o_iadd X73 hx (hb hby at_102) ?_
      refine o_istore X73 hx (hb hby at_103) (L' := #[vi p1, vi p2, vi p3, vi p4, vr b2, vi (2 : Int32), vi (p1 &&& (255 : Int32)), vi (p2 &&& (255 : Int32)), vi (((p2 &&& (255 : Int32)) * (256 : Int32)) + (p1 &&& (255 : Int32))), .unset]) rfl ?_
      refine o_iload X73 hx (hb hby at_105) rfl ?_
      refine o_sipush X73 hx (hb hby at_107) (v := 32767) rfl ?_
      exact kt
    have go78 : Go p e below s₁ F0 T73 (mkF m 120 #[vi p1, vi p2, vi p3, vi p4, vr b2, vi (2 : Int32), vi (p1 &&& (255 : Int32)), vi (p2 &&& (255 : Int32)), vi (if (32767 : Int32) < (((p2 &&& (255 : Int32)) * (256 : Int32)) + (p1 &&& (255 : Int32))) then ((((p2 &&& (255 : Int32)) * (256 : Int32)) + (p1 &&& (255 : Int32))) - (65536 : Int32)) else (((p2 &&& (255 : Int32)) * (256 : Int32)) + (p1 &&& (255 : Int32)))), .unset] []) := by
      intro t kt
      refine go76 t ?_
      by_cases hm110_77 : (32767 : Int32) < (((p2 &&& (255 : Int32)) * (256 : Int32)) + (p1 &&& (255 : Int32)))
      · simp only [if_pos hm110_77] at kt
        refine o_icmpNo X73 hx (hb hby at_110) (tlt hm110_77).2.2.2 ?_
        refine o_iload X73 hx (hb hby at_113) rfl ?_
        refine o_ldc X73 hx hown (mvT hZ (own_w hw 6 rfl)) (hb hby at_115) ?_
        refine o_isub X73 hx (hb hby at_117) ?_
        refine o_istore X73 hx (hb hby at_118) (L' := #[vi p1, vi p2, vi p3, vi p4, vr b2, vi (2 : Int32), vi (p1 &&& (255 : Int32)), vi (p2 &&& (255 : Int32)), vi ((((p2 &&& (255 : Int32)) * (256 : Int32)) + (p1 &&& (255 : Int32))) - (65536 : Int32)), .unset]) rfl ?_
        exact kt
      · simp only [if_neg hm110_77] at kt
        refine o_icmpYes X73 hx (hb hby at_110) (pc' := 120) rfl (by decide) (flt hm110_77).2.2.2 ?_
        exact kt
    have go79 : Go p e below s₁ F0 T73 (mkF m 124 #[vi p1, vi p2, vi p3, vi p4, vr b2, vi (2 : Int32), vi (p1 &&& (255 : Int32)), vi (p2 &&& (255 : Int32)), vi (if (32767 : Int32) < (((p2 &&& (255 : Int32)) * (256 : Int32)) + (p1 &&& (255 : Int32))) then ((((p2 &&& (255 : Int32)) * (256 : Int32)) + (p1 &&& (255 : Int32))) - (65536 : Int32)) else (((p2 &&& (255 : Int32)) * (256 : Int32)) + (p1 &&& (255 : Int32)))), .unset] [(.int (2 : Int32)), (.ref b2)]) := by
      intro t kt
      refine go78 t ?_
      refine o_aload X73 hx (hb hby at_120) rfl rfl ?_
      refine o_iload X73 hx (hb hby at_122) rfl ?_
      exact kt
    obtain ⟨_, _, ⟨T80, L80, k80, n80⟩, -, X80, ⟨Lc80, hQ80, l80, y80, z80⟩, st80⟩ := Jvm.LawKit.callS X73 hx (y := y_0) hown (mvT hZ (own_w hw 2 rfl)) (mvT hZ (own_w hw 3 rfl)) (mvT hZ (own_w hw 4 rfl)) (mvT hZ (own_w hw 5 rfl)) (by decide) (backOf (W := 0) (rm1_2 l Z a0 hw [] b2 k2 (p4.toInt8.toInt32) ((p4 >>> ((8 : Int32) &&& 31)).toInt8.toInt32) ((p4 >>> ((16 : Int32) &&& 31)).toInt8.toInt32) ((p4 >>> ((24 : Int32) &&& 31)).toInt8.toInt32) (p1.toInt8.toInt32) (p2.toInt8.toInt32) h73 n0 Z74 V73) hZ (own_w hw 5 rfl) (own_w hw 4 rfl) (by decide) (by decide)) (g := (mkF m 124 #[vi p1, vi p2, vi p3, vi p4, vr b2, vi (2 : Int32), vi (p1 &&& (255 : Int32)), vi (p2 &&& (255 : Int32)), vi (if (32767 : Int32) < (((p2 &&& (255 : Int32)) * (256 : Int32)) + (p1 &&& (255 : Int32))) then ((((p2 &&& (255 : Int32)) * (256 : Int32)) + (p1 &&& (255 : Int32))) - (65536 : Int32)) else (((p2 &&& (255 : Int32)) * (256 : Int32)) + (p1 &&& (255 : Int32)))), .unset] [(.int (2 : Int32)), (.ref b2)])) rfl (by rw [hml]; rfl) (argsL := [(.ref b2), (.int (2 : Int32))]) (rest := []) (lenOf pd0_0 rfl) rfl (by show 2 * 0 + _ ≤ _; exact Nat.le_of_eq rfl) (hb hby at_124) (fun _ _ => ⟨rfl, e73, (by decide : 1 + 0 ≤ _), (by decide : 6 + 0 ≤ _)⟩)
    dsimp only [Pt.U, Pt.locs, Pt.cells, Pt.slots] at X80 l80 y80 z80 st80 hQ80
    subst l80 y80 z80
    obtain ⟨rfl, Nq80, eh80⟩ := hQ80
    have N80 := Fr.app N73 Nq80
    have go81 : Go p e below s₁ F0 T80 (mkF m 127 #[vi p1, vi p2, vi p3, vi p4, vr b2, vi (2 : Int32), vi (p1 &&& (255 : Int32)), vi (p2 &&& (255 : Int32)), vi (if (32767 : Int32) < (((p2 &&& (255 : Int32)) * (256 : Int32)) + (p1 &&& (255 : Int32))) then ((((p2 &&& (255 : Int32)) * (256 : Int32)) + (p1 &&& (255 : Int32))) - (65536 : Int32)) else (((p2 &&& (255 : Int32)) * (256 : Int32)) + (p1 &&& (255 : Int32)))), .unset] [(.int (own_smp (p1.toInt8.toInt32) (p2.toInt8.toInt32)))]) := fun t k => go79 t (st80 t k)
    have go83 : Go p e below s₁ F0 T80 (mkF m 133 #[vi p1, vi p2, vi p3, vi p4, vr b2, vi (2 : Int32), vi (p1 &&& (255 : Int32)), vi (p2 &&& (255 : Int32)), vi (if (32767 : Int32) < (((p2 &&& (255 : Int32)) * (256 : Int32)) + (p1 &&& (255 : Int32))) then ((((p2 &&& (255 : Int32)) * (256 : Int32)) + (p1 &&& (255 : Int32))) - (65536 : Int32)) else (((p2 &&& (255 : Int32)) * (256 : Int32)) + (p1 &&& (255 : Int32)))), vi (own_smp (p1.toInt8.toInt32) (p2.toInt8.toInt32))] [(.int (if (32767 : Int32) < (((p2 &&& (255 : Int32)) * (256 : Int32)) + (p1 &&& (255 : Int32))) then ((((p2 &&& (255 : Int32)) * (256 : Int32)) + (p1 &&& (255 : Int32))) - (65536 : Int32)) else (((p2 &&& (255 : Int32)) * (256 : Int32)) + (p1 &&& (255 : Int32))))), (.int (own_smp (p1.toInt8.toInt32) (p2.toInt8.toInt32)))]) := by
      intro t kt
      refine go81 t ?_
      refine o_istore X80 hx (hb hby at_127) (L' := #[vi p1, vi p2, vi p3, vi p4, vr b2, vi (2 : Int32), vi (p1 &&& (255 : Int32)), vi (p2 &&& (255 : Int32)), vi (if (32767 : Int32) < (((p2 &&& (255 : Int32)) * (256 : Int32)) + (p1 &&& (255 : Int32))) then ((((p2 &&& (255 : Int32)) * (256 : Int32)) + (p1 &&& (255 : Int32))) - (65536 : Int32)) else (((p2 &&& (255 : Int32)) * (256 : Int32)) + (p1 &&& (255 : Int32)))), vi (own_smp (p1.toInt8.toInt32) (p2.toInt8.toInt32))]) rfl ?_
      refine o_iload X80 hx (hb hby at_129) rfl ?_
      refine o_iload X80 hx (hb hby at_131) rfl ?_
      exact kt
    have hd82 : (own_smp (p1.toInt8.toInt32) (p2.toInt8.toInt32)) = (if (32767 : Int32) < (((p2 &&& (255 : Int32)) * (256 : Int32)) + (p1 &&& (255 : Int32))) then ((((p2 &&& (255 : Int32)) * (256 : Int32)) + (p1 &&& (255 : Int32))) - (65536 : Int32)) else (((p2 &&& (255 : Int32)) * (256 : Int32)) + (p1 &&& (255 : Int32)))) := own_law _ _
    have go84 : Go p e below s₁ F0 T80 (mkF m 141 #[vi p1, vi p2, vi p3, vi p4, vr b2, vi (2 : Int32), vi (p1 &&& (255 : Int32)), vi (p2 &&& (255 : Int32)), vi (if (32767 : Int32) < (((p2 &&& (255 : Int32)) * (256 : Int32)) + (p1 &&& (255 : Int32))) then ((((p2 &&& (255 : Int32)) * (256 : Int32)) + (p1 &&& (255 : Int32))) - (65536 : Int32)) else (((p2 &&& (255 : Int32)) * (256 : Int32)) + (p1 &&& (255 : Int32)))), vi (own_smp (p1.toInt8.toInt32) (p2.toInt8.toInt32))] [(.int (1 : Int32))]) := by
      intro t kt
      refine go83 t ?_
      refine o_icmpNo X80 hx (hb hby at_133) (teq hd82).2 ?_
      refine o_iconst X80 hx (hb hby at_136) (v := 1) rfl ?_
      refine o_goto X80 hx (hb hby at_137) (pc' := 141) rfl (by decide) ?_
      exact kt
    obtain ⟨fs, hr, hrun, hended, hW, hsame⟩ := X80.leave (v := some (.int (1 : Int32))) (fun h => by rw [Bd.returns] at h; cases h)
    refine ⟨_, _, pre0 _ (go84 _ ?_), hrun, hended, _, _, rfl, ?_, ⟨_, rfl⟩, hW, hsame.mono (by decide) (by decide)⟩
    · skip
      exact retN X80 hx (t := .boolean) Bd.returns (by simp) (hb hby at_141) hr
    · show Q0 Z p1 p2 p3 p4 h0 n0 _ T80.heap _
      rw [eh80]
      exact ⟨rfl, N80⟩

set_option maxRecDepth 65536 in
set_option maxHeartbeats 40000000 in
theorem comes_1 {Post : Tables → Env → Array Value → State → Outcome → State → Prop} (hpost : ∀ tb e args s v u, (limb_1_1.after args s (.returned v) u = true ∧ limb_1_2.after args s (.returned v) u = true ∧ True) → FrameEnd s (.returned v) u (Jvm.fieldLocs frame_1_writes args s ++ Jvm.arrayLocs frame_1_arrays args s ++ Jvm.staticLocs frame_1_statics s) 16 128 → Post tb e args s (.returned v) u) :
    ArmFor flags0 classFile x code maxLocals ret World_1 tables_1 room_1 Calls_1 rest_1 Pre_1 Post := by
  intro l hfl _ _ p e ha hc hk s m args below hf hA hF happ hP
  obtain ⟨hcalls, hrest, hpre⟩ := hP
  obtain ⟨-, -, -, hnamed, -, -, -, hat⟩ := (Spec.applies_iff hf).mp happ
  obtain ⟨hg, hn⟩ := and_e (Cond.before_iff.mp (show (Jvm.Cond.and given_1 narrow_1).before args s = true from hpre))
  obtain ⟨g1, g2⟩ := and_e hg
  obtain ⟨g3, g4⟩ := and_e g2
  obtain ⟨g5, g6⟩ := and_e g4
  obtain ⟨g7, g8⟩ := and_e g6
  obtain ⟨w0, w1, w2, w3, rfl⟩ : ∃ w0 w1 w2 w3 : Value, args = #[w0, w1, w2, w3] := by
    have hs : args.size = 4 := by simpa [Cond.value, given_1] using g1
    obtain ⟨L⟩ := args
    match L, hs with
    | [w0, w1, w2, w3], _ => exact ⟨w0, w1, w2, w3, rfl⟩
  have hw := fun d (hd : d ∈ tables_1) => atoms_spec (ws := Jvm.Cond.code x code maxLocals ret :: tables_1) hat d (List.mem_cons_of_mem _ hd)
  have hfit : Fit s := fun {y c} hc i hi => by
    obtain ⟨ha, rfl⟩ := Array.getElem?_eq_some_iff.mp hc
    have q := List.all_eq_true.mp ((Array.all_eq_true_iff_forall_mem.mp hF) _ (Array.getElem_mem ha)) i (List.mem_range.mpr hi)
    simpa [Array.getElem?_eq_getElem hi] using q
  obtain ⟨i0, ei0⟩ := is_v g3
  obtain rfl : w0 = (.int i0) := Option.some.inj ei0
  obtain ⟨i1, ei1⟩ := is_v g5
  obtain rfl : w1 = (.int i1) := Option.some.inj ei1
  obtain ⟨i2, ei2⟩ := is_v g7
  obtain rfl : w2 = (.int i2) := Option.some.inj ei2
  obtain ⟨i3, ei3⟩ := is_v g8
  obtain rfl : w3 = (.int i3) := Option.some.inj ei3
  obtain ⟨n, o, h1, h2, h3, _, L, rfl, ⟨rfl, N⟩, hq⟩ := rm0 l s _ hw tables_1 i0 i1 i2 i3  s.heap s.heap.size (Nat.le_refl _)  p e ha hc hk s m _ below hf ((Spec.applies_iff_loose hf).mp happ).1 ⟨rfl, State.Warmed39.refl s, rfl⟩ trivial
  refine ⟨n, _, h1, h2, h3, hpost _ _ _ _ _ _ ⟨Cond.after_iff.mpr rfl, Cond.after_iff.mpr (eq_i res_at (Term.int_eval (1)) rfl), trivial⟩ ⟨hq.1, hq.2.1, (hq.2.2.sift fun y hy => Or.inr (N y hy)).mono (by decide) (by decide)⟩⟩
theorem main_1_1 : Claimed_1_1 := comes_1 fun _ _ _ _ _ _ h hF => ⟨h.1, hF⟩
theorem main_1_2 : Claimed_1_2 := comes_1 fun _ _ _ _ _ _ h hF => ⟨h.2.1, hF⟩
end Jvm.Pilot.@@N@@
namespace Jvm.Pilot.@@N@@
open Jvm Jvm.ClassFile Sem Op Lib Jvm.Free Jvm.Stand Jvm.Pilot.@@N@@.Jvm.D
/-! MADE BY PROGRAM (witnessworld.py) out of the Statement's table words and the real class files: 9 classes; the members and pool entries that the words name. The judged class is class 1, her method 1. -/
namespace start1
open Jvm.ClassFile
def u (s : String) : CpInfo := .utf8 (stringToUtf16 s)
/-- a pool by its gaps: so many unusable entries, then the entry; so many at the end -/
def gap : Nat → List CpInfo → List CpInfo
  | 0, r => r
  | n + 1, r => .unusable :: gap n r
def poolList (es : List (Nat × CpInfo)) (last : Nat) : List CpInfo := es.foldr (fun e r => gap e.1 (e.2 :: r)) (gap last [])
def pool (es : List (Nat × CpInfo)) (last : Nat) : Array CpInfo := ⟨poolList es last⟩
def fileOf (pool : Array CpInfo) (this : Nat) (attrs : Array Attribute := #[]) (ms : Array MethodInfo := #[]) (fl : Nat := 33) (sup : Nat := 0) (ifs : Array Nat := #[]) (fds : Array FieldInfo := #[]) : ClassFile where
  minorVersion := 0
  majorVersion := 65
  constantPool := pool
  accessFlags := fl
  thisClass := this
  superClass := sup
  interfaces := ifs
  fields := fds
  methods := ms
  attributes := attrs
def plain (name : String) (sup : Option ClassId) : Class where
  name := name
  kind := .ordinary
  loader := none
  accessFlags := 33
  super := sup
  interfaces := #[]
  cf := none
  fields := #[]
  methods := #[]
  instanceTypes := #[]
  staticTypes := #[]
  resolved := #[]
  callSites := []
  init := .initialized
  statics := none
  mirror := none

def pool0 : Array CpInfo := pool [(5, u "<init>"), (0, u "()V"), (1, .class_ 10), (1, u "java/lang/Object")] 113

def k0m0 : Method := { name := "<init>", desc := "()V", sig := { parameters := [], returnType := none }, accessFlags := 1, code := none }
/-- java/lang/Object -/
def k0 : Class := { plain "java/lang/Object" none with
  accessFlags := 33
  interfaces := #[]
  cf := some (fileOf pool0 8 #[] #[{ accessFlags := 1, nameIndex := 5, descriptorIndex := 6, attributes := #[] }] 33 0 #[] #[])
  fields := #[]
  methods := #[k0m0]
  instanceTypes := #[]
  staticTypes := #[]
  resolved := Array.replicate 124 none
  statics := none }

def pool1 : Array CpInfo := pool [(2, .class_ 4), (1, u "java/lang/Object"), (0, u "<init>"), (0, u "()V"), (0, .integer 2147483647), (0, .integer 65536), (0, .methodref 10 11), (0, .class_ 12), (0, .nameAndType 13 14), (0, u "com/example/glottis/glottis/audio/Audio"), (0, u "sample"), (0, u "([BI)S"), (0, .class_ 16), (0, u "com/example/glottis/glottis/audio/AudioSamplePinLaw"), (2, u "law"), (0, u "(IIII)Z")] 5

def k1m0 : Method := { name := "<init>", desc := "()V", sig := { parameters := [], returnType := none }, accessFlags := 2, code := none }
def k1c1 : Code := { maxStack := 5, maxLocals := 10, code := code, exceptionTable := #[], attributes := #[] }
def k1m1 : Method := { name := "law", desc := "(IIII)Z", sig := { parameters := [.int, .int, .int, .int], returnType := some .boolean }, accessFlags := 9, code := some k1c1 }
/-- com/example/glottis/glottis/audio/AudioSamplePinLaw -/
def k1 : Class := { plain "com/example/glottis/glottis/audio/AudioSamplePinLaw" (some 0) with
  accessFlags := 49
  interfaces := #[]
  cf := some (fileOf pool1 15 #[] #[{ accessFlags := 2, nameIndex := 5, descriptorIndex := 6, attributes := #[] }, { accessFlags := 9, nameIndex := 19, descriptorIndex := 20, attributes := #[] }] 49 2 #[] #[])
  fields := #[]
  methods := #[k1m0, k1m1]
  instanceTypes := #[]
  staticTypes := #[]
  resolved := Array.replicate 26 none
  statics := none }

def pool2 : Array CpInfo := pool [(2, .class_ 4), (1, u "java/lang/Object"), (0, u "<init>"), (0, u "()V"), (2, .class_ 10), (0, u "com/example/glottis/glottis/audio/Audio"), (29, .class_ 41), (0, u "com/example/glottis/glottis/audio/Audio$FilteredInput"), (13, .class_ 56), (0, u "com/example/glottis/glottis/audio/Audio$Gain"), (25, u "SAMPLE_RATES"), (0, u "Ljava/util/List;"), (2, u "BITS"), (0, u "I"), (9, u "sample"), (0, u "([BI)S")] 11

def k2m0 : Method := { name := "<init>", desc := "()V", sig := { parameters := [], returnType := none }, accessFlags := 2, code := none }
def k2c1 : Code := { maxStack := 4, maxLocals := 2, code := prog_1_method_5_code, exceptionTable := #[], attributes := #[] }
def k2m1 : Method := { name := "sample", desc := "([BI)S", sig := { parameters := [(.array .byte), .int], returnType := some .short }, accessFlags := 9, code := some k2c1 }
/-- com/example/glottis/glottis/audio/Audio -/
def k2 : Class := { plain "com/example/glottis/glottis/audio/Audio" (some 0) with
  accessFlags := 33
  interfaces := #[]
  cf := some (fileOf pool2 9 #[.nestMembers #[40, 55]] #[{ accessFlags := 2, nameIndex := 5, descriptorIndex := 6, attributes := #[] }, { accessFlags := 9, nameIndex := 97, descriptorIndex := 98, attributes := #[] }] 33 2 #[] #[{ accessFlags := 25, nameIndex := 82, descriptorIndex := 83, attributes := #[] }, { accessFlags := 26, nameIndex := 86, descriptorIndex := 87, attributes := #[] }])
  fields := #[{ name := "SAMPLE_RATES", type := (.object "java/util/List"), accessFlags := 25, slot := 0, constantValue := 0 }, { name := "BITS", type := .int, accessFlags := 26, slot := 1, constantValue := 0 }]
  methods := #[k2m0, k2m1]
  instanceTypes := #[]
  staticTypes := #[(.object "java/util/List"), .int]
  resolved := Array.replicate 110 none
  statics := none }

def pool3 : Array CpInfo := pool [(1, u "java/lang/Cloneable"), (0, .class_ 1), (0, u "java/lang/Object"), (0, .class_ 3)] 3

/-- java/lang/Cloneable -/
def k3 : Class := { plain "java/lang/Cloneable" (some 0) with
  accessFlags := 1537
  interfaces := #[]
  cf := some (fileOf pool3 2 #[] #[] 1537 4 #[] #[])
  fields := #[]
  methods := #[]
  instanceTypes := #[]
  staticTypes := #[]
  resolved := Array.replicate 8 none
  statics := none }

def pool4 : Array CpInfo := pool [(1, u "java/io/Serializable"), (0, .class_ 1), (0, u "java/lang/Object"), (0, .class_ 3)] 3

/-- java/io/Serializable -/
def k4 : Class := { plain "java/io/Serializable" (some 0) with
  accessFlags := 1537
  interfaces := #[]
  cf := some (fileOf pool4 2 #[] #[] 1537 4 #[] #[])
  fields := #[]
  methods := #[]
  instanceTypes := #[]
  staticTypes := #[]
  resolved := Array.replicate 8 none
  statics := none }

/-- the primitive byte -/
def k5 : Class := { plain "byte" none with kind := .primitive 'B', accessFlags := 0x411 }
/-- [B -/
def k6 : Class := { plain "[B" (some 0) with kind := .array 5 .byte, interfaces := #[3, 4], accessFlags := 1041 }

/-- the primitive int -/
def k7 : Class := { plain "int" none with kind := .primitive 'I', accessFlags := 0x411 }
/-- [I -/
def k8 : Class := { plain "[I" (some 0) with kind := .array 7 .int, interfaces := #[3, 4], accessFlags := 1041 }

def heap : Heap := #[]
def classes : Array Class := #[k0, k1, k2, k3, k4, k5, k6, k7, k8]
def interned : List (Array UInt16 × Addr) := []
def slotsUsed : Nat := 0
def theMethod : MethodId := ⟨1, 1⟩
def args0 : Array Value := #[.int 5, .int 5, .int 5, .int 5]
def aboutOver (below : List Frame) : State where
  vm := { classes := classes, interned := interned.toArray }
  heap := heap
  slotsUsed := slotsUsed
  threads := #[{ frames := .invoking theMethod args0 :: below }]
def below0 : List Frame := [.native { method := ⟨0, 0⟩, args := #[] }]
def about1 : State := aboutOver below0
def p0 : Program := .bare "" "" ""
def e0 : Env := launch0.env 0 0 0
theorem w_frames : about1.frames = Frame.invoking theMethod args0 :: below0 := rfl
set_option maxRecDepth 65536 in
theorem w_args : argsFit about1.vm theMethod args0 = true := by decide +kernel
set_option maxRecDepth 65536 in
theorem w_heap : heapFits about1 = true := by decide +kernel
set_option maxRecDepth 65536 in
theorem w_runnable : about1.curStatus? = some .runnable := by decide +kernel
set_option maxRecDepth 65536 in
theorem w_alone : about1.alone = true := by decide +kernel
set_option maxRecDepth 65536 in
theorem w_named : about1.methodNamed? x = some theMethod := by decide +kernel
set_option maxRecDepth 65536 in
theorem w_hears : about1.hears theMethod below0 = true := by decide +kernel
set_option maxRecDepth 65536 in
theorem w_ripe : about1.ripe theMethod args0 below0 = true := by decide +kernel
theorem w_running : about1.status = .running := rfl
set_option maxRecDepth 65536 in
theorem w_room : about1.hasRoom e0.platform room_1 = true :=
  launch0.hasRoom_least _ room_1 (by decide +kernel) (by decide +kernel) (by decide +kernel) (by decide +kernel) (by decide +kernel) (by decide +kernel)
theorem allAtoms_all (ts : List Jvm.Cond) (a : Array Jvm.Value) (st : Jvm.State) : (allAtoms ts).before a st = ts.all (fun c => c.before a st) := by
  induction ts with
  | nil => rfl
  | cons c t ih =>
    show (Jvm.Cond.and c (allAtoms t)).before a st = _
    rw [Jvm.Cond.before_and, ih, List.all_cons]
def words1 : List Jvm.Cond := Jvm.Cond.code x code maxLocals ret :: tables_1
/-- a 'code' word, met by the world's own term for the bytes: nothing is compared byte by byte -/
theorem code_word {y : MethodName} {bytes : ByteArray} {mx : Nat} {rt : Option FieldType} {a : Array Value} {s : State} {m : MethodId} {meth : Method} {c : Code} (h1 : s.methodNamed? y = some m) (h2 : s.vm.method? m = some meth) (h3 : meth.code = some c) (h4 : c.code = bytes)
    (h5 : (c.maxLocals == mx && c.exceptionTable.isEmpty && decide (c.maxStack ≤ mostOperands) && decide (meth.sig.returnType = rt) && !meth.locks && decide (parseMethodDescriptor y.desc = some meth.sig)) = true) : (Jvm.Cond.code y bytes mx rt).before a s = true := by
  simp only [Bool.and_eq_true, beq_iff_eq, Bool.not_eq_true', decide_eq_true_eq] at h5
  obtain ⟨⟨⟨⟨⟨g1, g2⟩, g3⟩, g4⟩, g5⟩, g6⟩ := h5
  simp [Cond.before, Cond.holds, Cond.value, h1, h2, h3, h4, g1, g2, g3, g4, g5, g6]
def isCode : Jvm.Cond → Bool
  | .code _ _ _ _ => true
  | _ => false
theorem all_split {L : List Jvm.Cond} {P : Jvm.Cond → Bool} (h1 : L.all (fun c => isCode c || P c) = true) (h2 : ∀ c ∈ L.filter isCode, P c = true) : L.all P = true := by
  refine List.all_eq_true.mpr fun c hc => ?_
  have h := List.all_eq_true.mp h1 c hc
  rcases Bool.eq_false_or_eq_true (isCode c) with hi | hi
  · exact h2 c (List.mem_filter.mpr ⟨hc, hi⟩)
  · simpa [hi] using h
set_option maxRecDepth 65536 in
theorem w_c0 : (Jvm.Cond.code x code maxLocals ret).before args0 about1 = true := code_word (m := ⟨1, 1⟩) (meth := k1m1) (c := k1c1) (by decide +kernel) rfl rfl rfl (by decide +kernel)
set_option maxRecDepth 65536 in
theorem w_c1 : (Jvm.Cond.code ({ cls := "com/example/glottis/glottis/audio/Audio", name := "sample", desc := "([BI)S" } : Jvm.MethodName) prog_1_method_5_code (2 : Nat) (Option.some Jvm.ClassFile.FieldType.short)).before args0 about1 = true := code_word (m := ⟨2, 1⟩) (meth := k2m1) (c := k2c1) (by decide +kernel) rfl rfl rfl (by decide +kernel)
def codes1 : List Jvm.Cond := [Jvm.Cond.code x code maxLocals ret, Jvm.Cond.code ({ cls := "com/example/glottis/glottis/audio/Audio", name := "sample", desc := "([BI)S" } : Jvm.MethodName) prog_1_method_5_code (2 : Nat) (Option.some Jvm.ClassFile.FieldType.short)]
set_option maxRecDepth 65536 in
theorem codes_eq : words1.filter isCode = codes1 := rfl
theorem w_codes : ∀ c ∈ words1.filter isCode, c.before args0 about1 = true := by
  rw [codes_eq]
  intro c hc
  simp only [codes1, List.mem_cons, List.not_mem_nil, or_false] at hc
  rcases hc with rfl | rfl
  · exact w_c0
  · exact w_c1
set_option maxRecDepth 65536 in
theorem w_t1 : words1.all (fun c => isCode c || c.before args0 about1) = true := by decide +kernel
theorem w_tables : (allAtoms (Jvm.Cond.code x code maxLocals ret :: tables_1)).before args0 about1 = true := by
  rw [allAtoms_all]
  show words1.all (fun c => c.before args0 about1) = true
  refine all_split ?_ w_codes
  rw [w_t1]
set_option maxRecDepth 65536 in
theorem w_case : (Jvm.Cond.and given_1 narrow_1).before args0 about1 = true := by decide +kernel
theorem w_applies : (headSpec (Jvm.Cond.code x code maxLocals ret :: tables_1) room_1).applies x e0.platform about1 = true :=
  (Spec.applies_iff w_frames).mpr ⟨w_running, w_runnable, w_alone, w_named, w_hears, w_ripe, w_room, w_tables⟩
theorem atStart : AtStart classFile x code maxLocals ret World_1 tables_1 room_1 Calls_1 rest_1 Pre_1 launch0 p0 e0 about1 theMethod args0 below0 :=
  ⟨lists_1, trivial, launch0.admits_env _ _ _, launch0.least_env, fairChoices_fair.cas, fairChoices_fair.clock, w_frames, w_args, w_heap, w_applies, trivial, trivial, w_case⟩
end start1
theorem witness_1 : WitnessClaimed_1 := ⟨start1.p0, start1.e0, start1.about1, start1.theMethod, start1.args0, start1.below0, start1.atStart⟩
end Jvm.Pilot.@@N@@
