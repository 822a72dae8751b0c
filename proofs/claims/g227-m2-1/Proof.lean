import JvmDerived
import JvmDerived.Pilot.@@N@@Statement
import JvmDerived.Pilot.@@N@@Code
set_option linter.unusedVariables false
set_option linter.unusedSimpArgs false
namespace Jvm.Pilot.@@N@@
open Jvm Jvm.ClassFile Sem Op Lib Jvm.Free Jvm.Stand Jvm.LawKit Jvm.RoadKit Bundle Jvm.Pilot.@@N@@.Jvm.D
section OwnKit
variable {p : Program} {l : Launch} {e : Env} {R : Room} {s : State} {m : MethodId} {args : Array Value} {below : List Frame} {meth : Method} {c : Code} {T : State} {locs : List Loc} {cells slots : Nat} {bytes : ByteArray} {Φ : State → Prop} {pc pc' : Nat} {Ls Ls' : Array Slot} {rest : List Value} {Z : State} {a0 : Array Value} {h : Heap}
/-- the run from A ends in a state with the property Φ -/
def GoP (p : Program) (e : Env) (below : List Frame) (Φ : State → Prop) (A : State) : Prop := ∃ t, Steps p.tables e below A t ∧ Φ t
theorem own_step {A B : State} (h : ∀ t, Steps p.tables e below B t → Steps p.tables e below A t) (g : GoP p e below Φ B) : GoP p e below Φ A := by
  obtain ⟨t, h1, h2⟩ := g; exact ⟨t, h t h1, h2⟩
theorem own_trans {A B : State} (h : Steps p.tables e below A B) (g : GoP p e below Φ B) : GoP p e below Φ A := by
  obtain ⟨t, h1, h2⟩ := g; exact ⟨t, h.trans h1, h2⟩
theorem own_w {L : List Jvm.Cond} (hw : ∀ d ∈ L, d.before a0 Z = true) (i : Nat) {d : Jvm.Cond} (q : L[i]? = some d) : d.before a0 Z = true := hw d (List.mem_of_getElem? q)

theorem own_iload (X : Stand p l e R s m args below meth c T locs cells slots) (hx : p.tables.exec = Jvm.exec) (hby : c.code = bytes) {k : Nat} {x : Int32} (hd : decode bytes pc = .ok (.iload k, 2)) (hl : Ls[k]? = some (.val (.int x))) (hp : pc + 2 = pc') (k : GoP p e below Φ (T.setTop (mkF m pc' Ls (.int x :: rest)))) : GoP p e below Φ (T.setTop (mkF m pc Ls (rest))) := by
  subst hp
  exact own_step (fun t q => XS.iload X.here hx rfl (hb hby hd) hl q) k
theorem own_iloadN (X : Stand p l e R s m args below meth c T locs cells slots) (hx : p.tables.exec = Jvm.exec) (hby : c.code = bytes) {k : Fin 4} {x : Int32} (hd : decode bytes pc = .ok (.iload_n k, 1)) (hl : Ls[k.val]? = some (.val (.int x))) (hp : pc + 1 = pc') (k : GoP p e below Φ (T.setTop (mkF m pc' Ls (.int x :: rest)))) : GoP p e below Φ (T.setTop (mkF m pc Ls (rest))) := by
  subst hp
  exact own_step (fun t q => XS.iloadN X.here hx rfl (hb hby hd) hl q) k
theorem own_istore (X : Stand p l e R s m args below meth c T locs cells slots) (hx : p.tables.exec = Jvm.exec) (hby : c.code = bytes) {k : Nat} {x : Int32} (hd : decode bytes pc = .ok (.istore k, 2)) (hl : storeLocals Ls k (.int x) = some Ls') (hp : pc + 2 = pc') (k : GoP p e below Φ (T.setTop (mkF m pc' Ls' (rest)))) : GoP p e below Φ (T.setTop (mkF m pc Ls (.int x :: rest))) := by
  subst hp
  exact own_step (fun t q => XS.istore X.here hx rfl (hb hby hd) rfl hl q) k
theorem own_istoreN (X : Stand p l e R s m args below meth c T locs cells slots) (hx : p.tables.exec = Jvm.exec) (hby : c.code = bytes) {k : Fin 4} {x : Int32} (hd : decode bytes pc = .ok (.istore_n k, 1)) (hl : storeLocals Ls k.val (.int x) = some Ls') (hp : pc + 1 = pc') (k : GoP p e below Φ (T.setTop (mkF m pc' Ls' (rest)))) : GoP p e below Φ (T.setTop (mkF m pc Ls (.int x :: rest))) := by
  subst hp
  exact own_step (fun t q => XS.istoreN X.here hx rfl (hb hby hd) rfl hl q) k
theorem own_lload (X : Stand p l e R s m args below meth c T locs cells slots) (hx : p.tables.exec = Jvm.exec) (hby : c.code = bytes) {k : Nat} {x : Int64} (hd : decode bytes pc = .ok (.lload k, 2)) (hl : Ls[k]? = some (.val (.long x))) (hp : pc + 2 = pc') (k : GoP p e below Φ (T.setTop (mkF m pc' Ls (.long x :: rest)))) : GoP p e below Φ (T.setTop (mkF m pc Ls (rest))) := by
  subst hp
  exact own_step (fun t q => XS.lload X.here hx rfl (hb hby hd) hl q) k
theorem own_lloadN (X : Stand p l e R s m args below meth c T locs cells slots) (hx : p.tables.exec = Jvm.exec) (hby : c.code = bytes) {k : Fin 4} {x : Int64} (hd : decode bytes pc = .ok (.lload_n k, 1)) (hl : Ls[k.val]? = some (.val (.long x))) (hp : pc + 1 = pc') (k : GoP p e below Φ (T.setTop (mkF m pc' Ls (.long x :: rest)))) : GoP p e below Φ (T.setTop (mkF m pc Ls (rest))) := by
  subst hp
  exact own_step (fun t q => XS.lloadN X.here hx rfl (hb hby hd) hl q) k
theorem own_lstore (X : Stand p l e R s m args below meth c T locs cells slots) (hx : p.tables.exec = Jvm.exec) (hby : c.code = bytes) {k : Nat} {x : Int64} (hd : decode bytes pc = .ok (.lstore k, 2)) (hl : storeLocals Ls k (.long x) = some Ls') (hp : pc + 2 = pc') (k : GoP p e below Φ (T.setTop (mkF m pc' Ls' (rest)))) : GoP p e below Φ (T.setTop (mkF m pc Ls (.long x :: rest))) := by
  subst hp
  exact own_step (fun t q => XS.lstore X.here hx rfl (hb hby hd) rfl hl q) k
theorem own_lstoreN (X : Stand p l e R s m args below meth c T locs cells slots) (hx : p.tables.exec = Jvm.exec) (hby : c.code = bytes) {k : Fin 4} {x : Int64} (hd : decode bytes pc = .ok (.lstore_n k, 1)) (hl : storeLocals Ls k.val (.long x) = some Ls') (hp : pc + 1 = pc') (k : GoP p e below Φ (T.setTop (mkF m pc' Ls' (rest)))) : GoP p e below Φ (T.setTop (mkF m pc Ls (.long x :: rest))) := by
  subst hp
  exact own_step (fun t q => XS.lstoreN X.here hx rfl (hb hby hd) rfl hl q) k
theorem own_aload (X : Stand p l e R s m args below meth c T locs cells slots) (hx : p.tables.exec = Jvm.exec) (hby : c.code = bytes) {k : Nat} {x : Value} (hd : decode bytes pc = .ok (.aload k, 2)) (hl : Ls[k]? = some (.val x)) (hr : x.isRef = true) (hp : pc + 2 = pc') (k : GoP p e below Φ (T.setTop (mkF m pc' Ls (x :: rest)))) : GoP p e below Φ (T.setTop (mkF m pc Ls (rest))) := by
  subst hp
  exact own_step (fun t q => XS.aload X.here hx rfl (hb hby hd) hl hr q) k
theorem own_aloadN (X : Stand p l e R s m args below meth c T locs cells slots) (hx : p.tables.exec = Jvm.exec) (hby : c.code = bytes) {k : Fin 4} {x : Value} (hd : decode bytes pc = .ok (.aload_n k, 1)) (hl : Ls[k.val]? = some (.val x)) (hr : x.isRef = true) (hp : pc + 1 = pc') (k : GoP p e below Φ (T.setTop (mkF m pc' Ls (x :: rest)))) : GoP p e below Φ (T.setTop (mkF m pc Ls (rest))) := by
  subst hp
  exact own_step (fun t q => XS.aloadN X.here hx rfl (hb hby hd) hl hr q) k
theorem own_astore (X : Stand p l e R s m args below meth c T locs cells slots) (hx : p.tables.exec = Jvm.exec) (hby : c.code = bytes) {k : Nat} {x : Value} (hd : decode bytes pc = .ok (.astore k, 2)) (hr : x.isRef = true) (hl : storeLocals Ls k x = some Ls') (hp : pc + 2 = pc') (k : GoP p e below Φ (T.setTop (mkF m pc' Ls' (rest)))) : GoP p e below Φ (T.setTop (mkF m pc Ls (x :: rest))) := by
  subst hp
  exact own_step (fun t q => XS.astore X.here hx rfl (hb hby hd) rfl hr hl q) k
theorem own_astoreN (X : Stand p l e R s m args below meth c T locs cells slots) (hx : p.tables.exec = Jvm.exec) (hby : c.code = bytes) {k : Fin 4} {x : Value} (hd : decode bytes pc = .ok (.astore_n k, 1)) (hr : x.isRef = true) (hl : storeLocals Ls k.val x = some Ls') (hp : pc + 1 = pc') (k : GoP p e below Φ (T.setTop (mkF m pc' Ls' (rest)))) : GoP p e below Φ (T.setTop (mkF m pc Ls (x :: rest))) := by
  subst hp
  exact own_step (fun t q => XS.astoreN X.here hx rfl (hb hby hd) rfl hr hl q) k
theorem own_iadd (X : Stand p l e R s m args below meth c T locs cells slots) (hx : p.tables.exec = Jvm.exec) (hby : c.code = bytes) {x y : Int32} (hd : decode bytes pc = .ok (.iadd, 1)) (hp : pc + 1 = pc') (k : GoP p e below Φ (T.setTop (mkF m pc' Ls (.int (x + y) :: rest)))) : GoP p e below Φ (T.setTop (mkF m pc Ls (.int y :: .int x :: rest))) := by
  subst hp
  exact own_step (fun t q => XS.iadd X.here hx rfl (hb hby hd) rfl q) k
theorem own_ladd (X : Stand p l e R s m args below meth c T locs cells slots) (hx : p.tables.exec = Jvm.exec) (hby : c.code = bytes) {x y : Int64} (hd : decode bytes pc = .ok (.ladd, 1)) (hp : pc + 1 = pc') (k : GoP p e below Φ (T.setTop (mkF m pc' Ls (.long (x + y) :: rest)))) : GoP p e below Φ (T.setTop (mkF m pc Ls (.long y :: .long x :: rest))) := by
  subst hp
  exact own_step (fun t q => XS.ladd X.here hx rfl (hb hby hd) rfl q) k
theorem own_isub (X : Stand p l e R s m args below meth c T locs cells slots) (hx : p.tables.exec = Jvm.exec) (hby : c.code = bytes) {x y : Int32} (hd : decode bytes pc = .ok (.isub, 1)) (hp : pc + 1 = pc') (k : GoP p e below Φ (T.setTop (mkF m pc' Ls (.int (x - y) :: rest)))) : GoP p e below Φ (T.setTop (mkF m pc Ls (.int y :: .int x :: rest))) := by
  subst hp
  exact own_step (fun t q => XS.isub X.here hx rfl (hb hby hd) rfl q) k
theorem own_lsub (X : Stand p l e R s m args below meth c T locs cells slots) (hx : p.tables.exec = Jvm.exec) (hby : c.code = bytes) {x y : Int64} (hd : decode bytes pc = .ok (.lsub, 1)) (hp : pc + 1 = pc') (k : GoP p e below Φ (T.setTop (mkF m pc' Ls (.long (x - y) :: rest)))) : GoP p e below Φ (T.setTop (mkF m pc Ls (.long y :: .long x :: rest))) := by
  subst hp
  exact own_step (fun t q => XS.lsub X.here hx rfl (hb hby hd) rfl q) k
theorem own_imul (X : Stand p l e R s m args below meth c T locs cells slots) (hx : p.tables.exec = Jvm.exec) (hby : c.code = bytes) {x y : Int32} (hd : decode bytes pc = .ok (.imul, 1)) (hp : pc + 1 = pc') (k : GoP p e below Φ (T.setTop (mkF m pc' Ls (.int (x * y) :: rest)))) : GoP p e below Φ (T.setTop (mkF m pc Ls (.int y :: .int x :: rest))) := by
  subst hp
  exact own_step (fun t q => XS.imul X.here hx rfl (hb hby hd) rfl q) k
theorem own_lmul (X : Stand p l e R s m args below meth c T locs cells slots) (hx : p.tables.exec = Jvm.exec) (hby : c.code = bytes) {x y : Int64} (hd : decode bytes pc = .ok (.lmul, 1)) (hp : pc + 1 = pc') (k : GoP p e below Φ (T.setTop (mkF m pc' Ls (.long (x * y) :: rest)))) : GoP p e below Φ (T.setTop (mkF m pc Ls (.long y :: .long x :: rest))) := by
  subst hp
  exact own_step (fun t q => XS.lmul X.here hx rfl (hb hby hd) rfl q) k
theorem own_iand (X : Stand p l e R s m args below meth c T locs cells slots) (hx : p.tables.exec = Jvm.exec) (hby : c.code = bytes) {x y : Int32} (hd : decode bytes pc = .ok (.iand, 1)) (hp : pc + 1 = pc') (k : GoP p e below Φ (T.setTop (mkF m pc' Ls (.int (x &&& y) :: rest)))) : GoP p e below Φ (T.setTop (mkF m pc Ls (.int y :: .int x :: rest))) := by
  subst hp
  exact own_step (fun t q => XS.iand X.here hx rfl (hb hby hd) rfl q) k
theorem own_land (X : Stand p l e R s m args below meth c T locs cells slots) (hx : p.tables.exec = Jvm.exec) (hby : c.code = bytes) {x y : Int64} (hd : decode bytes pc = .ok (.land, 1)) (hp : pc + 1 = pc') (k : GoP p e below Φ (T.setTop (mkF m pc' Ls (.long (x &&& y) :: rest)))) : GoP p e below Φ (T.setTop (mkF m pc Ls (.long y :: .long x :: rest))) := by
  subst hp
  exact own_step (fun t q => XS.land X.here hx rfl (hb hby hd) rfl q) k
theorem own_ior (X : Stand p l e R s m args below meth c T locs cells slots) (hx : p.tables.exec = Jvm.exec) (hby : c.code = bytes) {x y : Int32} (hd : decode bytes pc = .ok (.ior, 1)) (hp : pc + 1 = pc') (k : GoP p e below Φ (T.setTop (mkF m pc' Ls (.int (x ||| y) :: rest)))) : GoP p e below Φ (T.setTop (mkF m pc Ls (.int y :: .int x :: rest))) := by
  subst hp
  exact own_step (fun t q => XS.ior X.here hx rfl (hb hby hd) rfl q) k
theorem own_lor (X : Stand p l e R s m args below meth c T locs cells slots) (hx : p.tables.exec = Jvm.exec) (hby : c.code = bytes) {x y : Int64} (hd : decode bytes pc = .ok (.lor, 1)) (hp : pc + 1 = pc') (k : GoP p e below Φ (T.setTop (mkF m pc' Ls (.long (x ||| y) :: rest)))) : GoP p e below Φ (T.setTop (mkF m pc Ls (.long y :: .long x :: rest))) := by
  subst hp
  exact own_step (fun t q => XS.lor X.here hx rfl (hb hby hd) rfl q) k
theorem own_ixor (X : Stand p l e R s m args below meth c T locs cells slots) (hx : p.tables.exec = Jvm.exec) (hby : c.code = bytes) {x y : Int32} (hd : decode bytes pc = .ok (.ixor, 1)) (hp : pc + 1 = pc') (k : GoP p e below Φ (T.setTop (mkF m pc' Ls (.int (x ^^^ y) :: rest)))) : GoP p e below Φ (T.setTop (mkF m pc Ls (.int y :: .int x :: rest))) := by
  subst hp
  exact own_step (fun t q => XS.ixor X.here hx rfl (hb hby hd) rfl q) k
theorem own_lxor (X : Stand p l e R s m args below meth c T locs cells slots) (hx : p.tables.exec = Jvm.exec) (hby : c.code = bytes) {x y : Int64} (hd : decode bytes pc = .ok (.lxor, 1)) (hp : pc + 1 = pc') (k : GoP p e below Φ (T.setTop (mkF m pc' Ls (.long (x ^^^ y) :: rest)))) : GoP p e below Φ (T.setTop (mkF m pc Ls (.long y :: .long x :: rest))) := by
  subst hp
  exact own_step (fun t q => XS.lxor X.here hx rfl (hb hby hd) rfl q) k
theorem own_ishl (X : Stand p l e R s m args below meth c T locs cells slots) (hx : p.tables.exec = Jvm.exec) (hby : c.code = bytes) {x : Int32} {y : Int32} (hd : decode bytes pc = .ok (.ishl, 1)) (hp : pc + 1 = pc') (k : GoP p e below Φ (T.setTop (mkF m pc' Ls (.int (x <<< (y &&& 31)) :: rest)))) : GoP p e below Φ (T.setTop (mkF m pc Ls (.int y :: .int x :: rest))) := by
  subst hp
  exact own_step (fun t q => XS.ishl X.here hx rfl (hb hby hd) rfl q) k
theorem own_ishr (X : Stand p l e R s m args below meth c T locs cells slots) (hx : p.tables.exec = Jvm.exec) (hby : c.code = bytes) {x : Int32} {y : Int32} (hd : decode bytes pc = .ok (.ishr, 1)) (hp : pc + 1 = pc') (k : GoP p e below Φ (T.setTop (mkF m pc' Ls (.int (x >>> (y &&& 31)) :: rest)))) : GoP p e below Φ (T.setTop (mkF m pc Ls (.int y :: .int x :: rest))) := by
  subst hp
  exact own_step (fun t q => XS.ishr X.here hx rfl (hb hby hd) rfl q) k
theorem own_iushr (X : Stand p l e R s m args below meth c T locs cells slots) (hx : p.tables.exec = Jvm.exec) (hby : c.code = bytes) {x : Int32} {y : Int32} (hd : decode bytes pc = .ok (.iushr, 1)) (hp : pc + 1 = pc') (k : GoP p e below Φ (T.setTop (mkF m pc' Ls (.int ((x.toUInt32 >>> (y &&& 31).toUInt32).toInt32) :: rest)))) : GoP p e below Φ (T.setTop (mkF m pc Ls (.int y :: .int x :: rest))) := by
  subst hp
  exact own_step (fun t q => XS.iushr X.here hx rfl (hb hby hd) rfl q) k
theorem own_lshl (X : Stand p l e R s m args below meth c T locs cells slots) (hx : p.tables.exec = Jvm.exec) (hby : c.code = bytes) {x : Int64} {y : Int32} (hd : decode bytes pc = .ok (.lshl, 1)) (hp : pc + 1 = pc') (k : GoP p e below Φ (T.setTop (mkF m pc' Ls (.long (x <<< (y &&& 0x3f).toInt64) :: rest)))) : GoP p e below Φ (T.setTop (mkF m pc Ls (.int y :: .long x :: rest))) := by
  subst hp
  exact own_step (fun t q => XS.lshl X.here hx rfl (hb hby hd) rfl q) k
theorem own_lshr (X : Stand p l e R s m args below meth c T locs cells slots) (hx : p.tables.exec = Jvm.exec) (hby : c.code = bytes) {x : Int64} {y : Int32} (hd : decode bytes pc = .ok (.lshr, 1)) (hp : pc + 1 = pc') (k : GoP p e below Φ (T.setTop (mkF m pc' Ls (.long (x >>> (y &&& 0x3f).toInt64) :: rest)))) : GoP p e below Φ (T.setTop (mkF m pc Ls (.int y :: .long x :: rest))) := by
  subst hp
  exact own_step (fun t q => XS.lshr X.here hx rfl (hb hby hd) rfl q) k
theorem own_lushr (X : Stand p l e R s m args below meth c T locs cells slots) (hx : p.tables.exec = Jvm.exec) (hby : c.code = bytes) {x : Int64} {y : Int32} (hd : decode bytes pc = .ok (.lushr, 1)) (hp : pc + 1 = pc') (k : GoP p e below Φ (T.setTop (mkF m pc' Ls (.long ((x.toUInt64 >>> (y &&& 0x3f).toInt64.toUInt64).toInt64) :: rest)))) : GoP p e below Φ (T.setTop (mkF m pc Ls (.int y :: .long x :: rest))) := by
  subst hp
  exact own_step (fun t q => XS.lushr X.here hx rfl (hb hby hd) rfl q) k
theorem own_ineg (X : Stand p l e R s m args below meth c T locs cells slots) (hx : p.tables.exec = Jvm.exec) (hby : c.code = bytes) {x : Int32} (hd : decode bytes pc = .ok (.ineg, 1)) (hp : pc + 1 = pc') (k : GoP p e below Φ (T.setTop (mkF m pc' Ls (.int (-x) :: rest)))) : GoP p e below Φ (T.setTop (mkF m pc Ls (.int x :: rest))) := by
  subst hp
  exact own_step (fun t q => XS.ineg X.here hx rfl (hb hby hd) rfl q) k
theorem own_lneg (X : Stand p l e R s m args below meth c T locs cells slots) (hx : p.tables.exec = Jvm.exec) (hby : c.code = bytes) {x : Int64} (hd : decode bytes pc = .ok (.lneg, 1)) (hp : pc + 1 = pc') (k : GoP p e below Φ (T.setTop (mkF m pc' Ls (.long (-x) :: rest)))) : GoP p e below Φ (T.setTop (mkF m pc Ls (.long x :: rest))) := by
  subst hp
  exact own_step (fun t q => XS.lneg X.here hx rfl (hb hby hd) rfl q) k
theorem own_i2l (X : Stand p l e R s m args below meth c T locs cells slots) (hx : p.tables.exec = Jvm.exec) (hby : c.code = bytes) {x : Int32} (hd : decode bytes pc = .ok (.i2l, 1)) (hp : pc + 1 = pc') (k : GoP p e below Φ (T.setTop (mkF m pc' Ls (.long (x.toInt64) :: rest)))) : GoP p e below Φ (T.setTop (mkF m pc Ls (.int x :: rest))) := by
  subst hp
  exact own_step (fun t q => XS.i2l X.here hx rfl (hb hby hd) rfl q) k
theorem own_l2i (X : Stand p l e R s m args below meth c T locs cells slots) (hx : p.tables.exec = Jvm.exec) (hby : c.code = bytes) {x : Int64} (hd : decode bytes pc = .ok (.l2i, 1)) (hp : pc + 1 = pc') (k : GoP p e below Φ (T.setTop (mkF m pc' Ls (.int (x.toInt32) :: rest)))) : GoP p e below Φ (T.setTop (mkF m pc Ls (.long x :: rest))) := by
  subst hp
  exact own_step (fun t q => XS.l2i X.here hx rfl (hb hby hd) rfl q) k
theorem own_i2b (X : Stand p l e R s m args below meth c T locs cells slots) (hx : p.tables.exec = Jvm.exec) (hby : c.code = bytes) {x : Int32} (hd : decode bytes pc = .ok (.i2b, 1)) (hp : pc + 1 = pc') (k : GoP p e below Φ (T.setTop (mkF m pc' Ls (.int (x.toInt8.toInt32) :: rest)))) : GoP p e below Φ (T.setTop (mkF m pc Ls (.int x :: rest))) := by
  subst hp
  exact own_step (fun t q => XS.i2b X.here hx rfl (hb hby hd) rfl q) k
theorem own_i2s (X : Stand p l e R s m args below meth c T locs cells slots) (hx : p.tables.exec = Jvm.exec) (hby : c.code = bytes) {x : Int32} (hd : decode bytes pc = .ok (.i2s, 1)) (hp : pc + 1 = pc') (k : GoP p e below Φ (T.setTop (mkF m pc' Ls (.int (x.toInt16.toInt32) :: rest)))) : GoP p e below Φ (T.setTop (mkF m pc Ls (.int x :: rest))) := by
  subst hp
  exact own_step (fun t q => XS.i2s X.here hx rfl (hb hby hd) rfl q) k
theorem own_i2c (X : Stand p l e R s m args below meth c T locs cells slots) (hx : p.tables.exec = Jvm.exec) (hby : c.code = bytes) {x : Int32} (hd : decode bytes pc = .ok (.i2c, 1)) (hp : pc + 1 = pc') (k : GoP p e below Φ (T.setTop (mkF m pc' Ls (.int (x.toUInt32.toUInt16.toUInt32.toInt32) :: rest)))) : GoP p e below Φ (T.setTop (mkF m pc Ls (.int x :: rest))) := by
  subst hp
  exact own_step (fun t q => XS.i2c X.here hx rfl (hb hby hd) rfl q) k
theorem own_irem (X : Stand p l e R s m args below meth c T locs cells slots) (hx : p.tables.exec = Jvm.exec) (hby : c.code = bytes) {x y : Int32} (hd : decode bytes pc = .ok (.irem, 1)) (hy : y ≠ 0) (hp : pc + 1 = pc') (k : GoP p e below Φ (T.setTop (mkF m pc' Ls (.int (x % y) :: rest)))) : GoP p e below Φ (T.setTop (mkF m pc Ls (.int y :: .int x :: rest))) := by
  subst hp
  exact own_step (fun t q => iremM X hx rfl (hb hby hd) rfl hy q) k
theorem own_idiv (X : Stand p l e R s m args below meth c T locs cells slots) (hx : p.tables.exec = Jvm.exec) (hby : c.code = bytes) {x y : Int32} (hd : decode bytes pc = .ok (.idiv, 1)) (hy : y ≠ 0) (hp : pc + 1 = pc') (k : GoP p e below Φ (T.setTop (mkF m pc' Ls (.int (x / y) :: rest)))) : GoP p e below Φ (T.setTop (mkF m pc Ls (.int y :: .int x :: rest))) := by
  subst hp
  exact own_step (fun t q => XS.idiv X.here hx rfl (hb hby hd) rfl hy q) k
theorem own_ldiv (X : Stand p l e R s m args below meth c T locs cells slots) (hx : p.tables.exec = Jvm.exec) (hby : c.code = bytes) {x y : Int64} (hd : decode bytes pc = .ok (.ldiv, 1)) (hy : y ≠ 0) (hp : pc + 1 = pc') (k : GoP p e below Φ (T.setTop (mkF m pc' Ls (.long (x / y) :: rest)))) : GoP p e below Φ (T.setTop (mkF m pc Ls (.long y :: .long x :: rest))) := by
  subst hp
  exact own_step (fun t q => XS.ldiv X.here hx rfl (hb hby hd) rfl hy q) k
theorem own_lrem (X : Stand p l e R s m args below meth c T locs cells slots) (hx : p.tables.exec = Jvm.exec) (hby : c.code = bytes) {x y : Int64} (hd : decode bytes pc = .ok (.lrem, 1)) (hy : y ≠ 0) (hp : pc + 1 = pc') (k : GoP p e below Φ (T.setTop (mkF m pc' Ls (.long (x % y) :: rest)))) : GoP p e below Φ (T.setTop (mkF m pc Ls (.long y :: .long x :: rest))) := by
  subst hp
  rw [← lrem_mod] at k
  exact own_step (fun t q => XS.lrem X.here hx rfl (hb hby hd) rfl hy q) k
theorem own_lcmp (X : Stand p l e R s m args below meth c T locs cells slots) (hx : p.tables.exec = Jvm.exec) (hby : c.code = bytes) {x y : Int64} (hd : decode bytes pc = .ok (.lcmp, 1)) (hp : pc + 1 = pc') (k : GoP p e below Φ (T.setTop (mkF m pc' Ls (.int (lcmpW x y) :: rest)))) : GoP p e below Φ (T.setTop (mkF m pc Ls (.long y :: .long x :: rest))) := by
  subst hp
  exact own_step (fun t q => XS.lcmp X.here hx rfl (hb hby hd) rfl q) k
theorem own_iconst (X : Stand p l e R s m args below meth c T locs cells slots) (hx : p.tables.exec = Jvm.exec) (hby : c.code = bytes) {i : Int} {v : Int32} (hd : decode bytes pc = .ok (.iconst i, 1)) (hv : Int32.ofInt i = v) (hp : pc + 1 = pc') (k : GoP p e below Φ (T.setTop (mkF m pc' Ls (.int v :: rest)))) : GoP p e below Φ (T.setTop (mkF m pc Ls (rest))) := by
  subst hp hv
  exact own_step (fun t q => XS.iconst X.here hx rfl (hb hby hd) q) k
theorem own_bipush (X : Stand p l e R s m args below meth c T locs cells slots) (hx : p.tables.exec = Jvm.exec) (hby : c.code = bytes) {i : Int} {v : Int32} (hd : decode bytes pc = .ok (.bipush i, 2)) (hv : (Int8.ofInt i).toInt32 = v) (hp : pc + 2 = pc') (k : GoP p e below Φ (T.setTop (mkF m pc' Ls (.int v :: rest)))) : GoP p e below Φ (T.setTop (mkF m pc Ls (rest))) := by
  subst hp hv
  exact own_step (fun t q => XS.bipush X.here hx rfl (hb hby hd) q) k
theorem own_sipush (X : Stand p l e R s m args below meth c T locs cells slots) (hx : p.tables.exec = Jvm.exec) (hby : c.code = bytes) {i : Int} {v : Int32} (hd : decode bytes pc = .ok (.sipush i, 3)) (hv : (Int16.ofInt i).toInt32 = v) (hp : pc + 3 = pc') (k : GoP p e below Φ (T.setTop (mkF m pc' Ls (.int v :: rest)))) : GoP p e below Φ (T.setTop (mkF m pc Ls (rest))) := by
  subst hp hv
  exact own_step (fun t q => XS.sipush X.here hx rfl (hb hby hd) q) k
theorem own_lconst (X : Stand p l e R s m args below meth c T locs cells slots) (hx : p.tables.exec = Jvm.exec) (hby : c.code = bytes) {i : Fin 2} {v : Int64} (hd : decode bytes pc = .ok (.lconst i, 1)) (hv : Int64.ofNat i = v) (hp : pc + 1 = pc') (k : GoP p e below Φ (T.setTop (mkF m pc' Ls (.long v :: rest)))) : GoP p e below Φ (T.setTop (mkF m pc Ls (rest))) := by
  subst hp hv
  exact own_step (fun t q => XS.lconst X.here hx rfl (hb hby hd) q) k
theorem own_aconst_null (X : Stand p l e R s m args below meth c T locs cells slots) (hx : p.tables.exec = Jvm.exec) (hby : c.code = bytes) (hd : decode bytes pc = .ok (.aconst_null, 1)) (hp : pc + 1 = pc') (k : GoP p e below Φ (T.setTop (mkF m pc' Ls (.null :: rest)))) : GoP p e below Φ (T.setTop (mkF m pc Ls (rest))) := by
  subst hp
  exact own_step (fun t q => XS.aconstNull X.here hx rfl (hb hby hd) q) k
theorem own_dup (X : Stand p l e R s m args below meth c T locs cells slots) (hx : p.tables.exec = Jvm.exec) (hby : c.code = bytes) {x : Value} (hd : decode bytes pc = .ok (.dup, 1)) (hc : x.category = 1) (hp : pc + 1 = pc') (k : GoP p e below Φ (T.setTop (mkF m pc' Ls (x :: x :: rest)))) : GoP p e below Φ (T.setTop (mkF m pc Ls (x :: rest))) := by
  subst hp
  exact own_step (fun t q => XS.dup X.here hx rfl (hb hby hd) rfl hc q) k
theorem own_pop (X : Stand p l e R s m args below meth c T locs cells slots) (hx : p.tables.exec = Jvm.exec) (hby : c.code = bytes) {x : Value} (hd : decode bytes pc = .ok (.pop, 1)) (hc : x.category = 1) (hp : pc + 1 = pc') (k : GoP p e below Φ (T.setTop (mkF m pc' Ls (rest)))) : GoP p e below Φ (T.setTop (mkF m pc Ls (x :: rest))) := by
  subst hp
  exact own_step (fun t q => XS.pop X.here hx rfl (hb hby hd) rfl hc q) k
theorem own_dup_x1 (X : Stand p l e R s m args below meth c T locs cells slots) (hx : p.tables.exec = Jvm.exec) (hby : c.code = bytes) {x y : Value} (hd : decode bytes pc = .ok (.dup_x1, 1)) (hc : x.category = 1) (hc' : y.category = 1) (hp : pc + 1 = pc') (k : GoP p e below Φ (T.setTop (mkF m pc' Ls (x :: y :: x :: rest)))) : GoP p e below Φ (T.setTop (mkF m pc Ls (x :: y :: rest))) := by
  subst hp
  exact own_step (fun t q => XS.dupX1 X.here hx rfl (hb hby hd) rfl hc hc' q) k
theorem own_dup2 (X : Stand p l e R s m args below meth c T locs cells slots) (hx : p.tables.exec = Jvm.exec) (hby : c.code = bytes) {x y : Value} (hd : decode bytes pc = .ok (.dup2, 1)) (hc : x.category = 1) (hc' : y.category = 1) (hp : pc + 1 = pc') (k : GoP p e below Φ (T.setTop (mkF m pc' Ls (x :: y :: x :: y :: rest)))) : GoP p e below Φ (T.setTop (mkF m pc Ls (x :: y :: rest))) := by
  subst hp
  exact own_step (fun t q => XT.dup2 X.here hx rfl (hb hby hd) rfl hc hc' q) k
theorem own_dup2L (X : Stand p l e R s m args below meth c T locs cells slots) (hx : p.tables.exec = Jvm.exec) (hby : c.code = bytes) {x : Int64} (hd : decode bytes pc = .ok (.dup2, 1)) (hp : pc + 1 = pc') (k : GoP p e below Φ (T.setTop (mkF m pc' Ls (.long x :: .long x :: rest)))) : GoP p e below Φ (T.setTop (mkF m pc Ls (.long x :: rest))) := by
  subst hp
  exact own_step (fun t q => XT.dup2L X.here hx rfl (hb hby hd) rfl q) k
theorem own_iinc (X : Stand p l e R s m args below meth c T locs cells slots) (hx : p.tables.exec = Jvm.exec) (hby : c.code = bytes) {k0 : Nat} {i : Int} {x v : Int32} (hd : decode bytes pc = .ok (.iinc k0 i, 3)) (hl : Ls[k0]? = some (.val (.int x))) (hv : Int32.ofInt i = v) (hl' : storeLocals Ls k0 (.int (x + v)) = some Ls') (hp : pc + 3 = pc') (k : GoP p e below Φ (T.setTop (mkF m pc' Ls' (rest)))) : GoP p e below Φ (T.setTop (mkF m pc Ls (rest))) := by
  subst hp hv
  exact own_step (fun t q => XS.iinc X.here hx rfl (hb hby hd) hl hl' q) k
theorem own_goto (X : Stand p l e R s m args below meth c T locs cells slots) (hx : p.tables.exec = Jvm.exec) (hby : c.code = bytes) {o : Int} (hd : decode bytes pc = .ok (.goto o, 3)) (ho : 0 ≤ (pc : Int) + o) (hp : ((pc : Int) + o).toNat = pc') (k : GoP p e below Φ (T.setTop (mkF m pc' Ls (rest)))) : GoP p e below Φ (T.setTop (mkF m pc Ls (rest))) :=
  own_step (fun t q => XS.goto X.here hx rfl (pc0 := pc) (pc' := pc') rfl (hb hby hd) ho hp q) k
theorem own_ifY (X : Stand p l e R s m args below meth c T locs cells slots) (hx : p.tables.exec = Jvm.exec) (hby : c.code = bytes) {cd : ClassFile.Cond} {o : Int} {x : Int32} (hd : decode bytes pc = .ok (.ifCond cd o, 3)) (hc : ifCond.holds cd x = true) (ho : 0 ≤ (pc : Int) + o) (hp : ((pc : Int) + o).toNat = pc') (k : GoP p e below Φ (T.setTop (mkF m pc' Ls (rest)))) : GoP p e below Φ (T.setTop (mkF m pc Ls (.int x :: rest))) :=
  own_step (fun t q => XS.ifYes X.here hx rfl (pc0 := pc) (pc' := pc') rfl (hb hby hd) rfl hc ho hp q) k
theorem own_ifN (X : Stand p l e R s m args below meth c T locs cells slots) (hx : p.tables.exec = Jvm.exec) (hby : c.code = bytes) {cd : ClassFile.Cond} {o : Int} {x : Int32} (hd : decode bytes pc = .ok (.ifCond cd o, 3)) (hc : ifCond.holds cd x = false) (hp : pc + 3 = pc') (k : GoP p e below Φ (T.setTop (mkF m pc' Ls (rest)))) : GoP p e below Φ (T.setTop (mkF m pc Ls (.int x :: rest))) := by
  subst hp
  exact own_step (fun t q => XS.ifNo X.here hx rfl (hb hby hd) rfl hc q) k
theorem own_icmpY (X : Stand p l e R s m args below meth c T locs cells slots) (hx : p.tables.exec = Jvm.exec) (hby : c.code = bytes) {cd : ClassFile.Cond} {o : Int} {x y : Int32} (hd : decode bytes pc = .ok (.if_icmp cd o, 3)) (hc : if_icmp.holds cd x y = true) (ho : 0 ≤ (pc : Int) + o) (hp : ((pc : Int) + o).toNat = pc') (k : GoP p e below Φ (T.setTop (mkF m pc' Ls (rest)))) : GoP p e below Φ (T.setTop (mkF m pc Ls (.int y :: .int x :: rest))) :=
  own_step (fun t q => XS.icmpYes X.here hx rfl (pc0 := pc) (pc' := pc') rfl (hb hby hd) rfl hc ho hp q) k
theorem own_icmpN (X : Stand p l e R s m args below meth c T locs cells slots) (hx : p.tables.exec = Jvm.exec) (hby : c.code = bytes) {cd : ClassFile.Cond} {o : Int} {x y : Int32} (hd : decode bytes pc = .ok (.if_icmp cd o, 3)) (hc : if_icmp.holds cd x y = false) (hp : pc + 3 = pc') (k : GoP p e below Φ (T.setTop (mkF m pc' Ls (rest)))) : GoP p e below Φ (T.setTop (mkF m pc Ls (.int y :: .int x :: rest))) := by
  subst hp
  exact own_step (fun t q => XS.icmpNo X.here hx rfl (hb hby hd) rfl hc q) k
theorem own_ifnullY (X : Stand p l e R s m args below meth c T locs cells slots) (hx : p.tables.exec = Jvm.exec) (hby : c.code = bytes) {o : Int} (hd : decode bytes pc = .ok (.ifnull o, 3)) (ho : 0 ≤ (pc : Int) + o) (hp : ((pc : Int) + o).toNat = pc') (k : GoP p e below Φ (T.setTop (mkF m pc' Ls (rest)))) : GoP p e below Φ (T.setTop (mkF m pc Ls (.null :: rest))) :=
  own_step (fun t q => XS.ifnullYes X.here hx rfl (pc0 := pc) (pc' := pc') rfl (hb hby hd) rfl ho hp q) k
theorem own_ifnullN (X : Stand p l e R s m args below meth c T locs cells slots) (hx : p.tables.exec = Jvm.exec) (hby : c.code = bytes) {o : Int} {b : Addr} (hd : decode bytes pc = .ok (.ifnull o, 3)) (hp : pc + 3 = pc') (k : GoP p e below Φ (T.setTop (mkF m pc' Ls (rest)))) : GoP p e below Φ (T.setTop (mkF m pc Ls (.ref b :: rest))) := by
  subst hp
  exact own_step (fun t q => XS.ifnullNo X.here hx rfl (hb hby hd) rfl q) k
theorem own_ifnonnullY (X : Stand p l e R s m args below meth c T locs cells slots) (hx : p.tables.exec = Jvm.exec) (hby : c.code = bytes) {b : Addr} {o : Int} (hd : decode bytes pc = .ok (.ifnonnull o, 3)) (ho : 0 ≤ (pc : Int) + o) (hp : ((pc : Int) + o).toNat = pc') (k : GoP p e below Φ (T.setTop (mkF m pc' Ls (rest)))) : GoP p e below Φ (T.setTop (mkF m pc Ls (.ref b :: rest))) :=
  own_step (fun t q => XS.ifnonnullYes X.here hx rfl (pc0 := pc) (pc' := pc') rfl (hb hby hd) rfl ho hp q) k
theorem own_ifnonnullN (X : Stand p l e R s m args below meth c T locs cells slots) (hx : p.tables.exec = Jvm.exec) (hby : c.code = bytes) {o : Int} (hd : decode bytes pc = .ok (.ifnonnull o, 3)) (hp : pc + 3 = pc') (k : GoP p e below Φ (T.setTop (mkF m pc' Ls (rest)))) : GoP p e below Φ (T.setTop (mkF m pc Ls (.null :: rest))) := by
  subst hp
  exact own_step (fun t q => XS.ifnonnullNo X.here hx rfl (hb hby hd) rfl q) k
theorem own_acmp (X : Stand p l e R s m args below meth c T locs cells slots) (hx : p.tables.exec = Jvm.exec) (hby : c.code = bytes) {cd : ACond} {x y : Value} {o : Int} (hd : decode bytes pc = .ok (.if_acmp cd o, 3)) (h1 : x.isRef = true) (h2 : y.isRef = true) {same : Bool} (hq : decide (x = y) = same) (ho : 0 ≤ (pc : Int) + o) (hp : pc' = if acV cd same = true then ((pc : Int) + o).toNat else pc + 3) (k : GoP p e below Φ (T.setTop (mkF m pc' Ls (rest)))) : GoP p e below Φ (T.setTop (mkF m pc Ls (y :: x :: rest))) :=
  own_step (fun t q => Jvm.RoadKit.acmp (g := mkF m pc Ls (y :: x :: rest)) X hx rfl h1 h2 (pc0 := pc) (pc' := pc') (same := same) rfl (hb hby hd) rfl hq ho hp q) k
theorem own_ldcI (X : Stand p l e R s m args below meth c T locs cells slots) (hx : p.tables.exec = Jvm.exec) (hby : c.code = bytes) (hZ : Z.Warmed39 s.vm) {own : String} {i : Nat} {v : Int32} (hown : s.vm.findClass own = some m.cls) (w : (Jvm.Cond.constant own i v).before a0 Z = true) (hd : decode bytes pc = .ok (.ldc i, 2)) (hp : pc + 2 = pc') (k : GoP p e below Φ (T.setTop (mkF m pc' Ls (.int v :: rest)))) : GoP p e below Φ (T.setTop (mkF m pc Ls (rest))) := by
  subst hp
  exact own_step (fun t q => Jvm.Stand.ldcI X hx hown (mvT hZ w) rfl (hb hby hd) q) k
theorem own_ldcWI (X : Stand p l e R s m args below meth c T locs cells slots) (hx : p.tables.exec = Jvm.exec) (hby : c.code = bytes) (hZ : Z.Warmed39 s.vm) {own : String} {i : Nat} {v : Int32} (hown : s.vm.findClass own = some m.cls) (w : (Jvm.Cond.constant own i v).before a0 Z = true) (hd : decode bytes pc = .ok (.ldc_w i, 3)) (hp : pc + 3 = pc') (k : GoP p e below Φ (T.setTop (mkF m pc' Ls (.int v :: rest)))) : GoP p e below Φ (T.setTop (mkF m pc Ls (rest))) := by
  subst hp
  exact own_step (fun t q => Jvm.Stand.ldcWI X hx hown (mvT hZ w) rfl (hb hby hd) q) k
theorem own_ldc2J (X : Stand p l e R s m args below meth c T locs cells slots) (hx : p.tables.exec = Jvm.exec) (hby : c.code = bytes) (hZ : Z.Warmed39 s.vm) {own : String} {i : Nat} {v : Int64} (hown : s.vm.findClass own = some m.cls) (w : (Jvm.Cond.constantLong own i v).before a0 Z = true) (hd : decode bytes pc = .ok (.ldc2_w i, 3)) (hp : pc + 3 = pc') (k : GoP p e below Φ (T.setTop (mkF m pc' Ls (.long v :: rest)))) : GoP p e below Φ (T.setTop (mkF m pc Ls (rest))) := by
  subst hp
  exact own_step (fun t q => Jvm.Stand.ldc2J X hx hown (mvT hZ w) rfl (hb hby hd) q) k
/-- a contract of one body at one heap: with these arguments it returns, and Q says what it leaves -/
def Con (l : Launch) (Z : State) (y : MethodName) (bytes : ByteArray) (maxL : Nat) (ret : Option FieldType) (ws : List Jvm.Cond) (rm : Room) (as' : Array Value) (h0 : Heap) (Q : Option Value → Heap → List Loc → Prop) : Prop :=
  MetFree l y (head1 (Jvm.Cond.code y bytes maxL ret :: ws) rm) (fun a U => a = as' ∧ Z.Warmed39 U.vm ∧ U.heap = h0) (fun _ _ _ _ _ => True) (fun _ U o U' => ∃ v L, o = .returned v ∧ Q v U'.heap L ∧ FrameEnd U o U' L rm.cells rm.slots)
/-- where a body may end: at a state that stands, with a value that Q takes -/
def Fin (p : Program) (l : Launch) (e : Env) (R : Room) (s : State) (m : MethodId) (args : Array Value) (below : List Frame) (meth : Method) (c : Code) (Q : Option Value → Heap → List Loc → Prop) (Φ : State → Prop) : Prop :=
  ∀ (T : State) (locs : List Loc) (cells slots : Nat) (v : Option Value), Stand p l e R s m args below meth c T locs cells slots → (meth.sig.returnType = none → v = none) → Q v T.heap locs → cells ≤ R.cells → slots ≤ R.slots →
    ∃ fs, (∀ (f : JFrame) (acts : List Action), f.method = m → f.locked = none → f.entered = [] → (doReturn e (T.setTop f) acts v).1 = T.setFrames fs) ∧ Φ (T.setFrames fs)
theorem Con.of {y : MethodName} {maxL : Nat} {ret : Option FieldType} {ws : List Jvm.Cond} {rm : Room} {as' : Array Value} {h0 : Heap} {Q : Option Value → Heap → List Loc → Prop} (hpn : plainFor y = true)
    (body : ∀ (p : Program) (e : Env) (s : State) (m : MethodId) (below : List Frame) (meth : Method) (c : Code) (T : State), Stand p l e rm s m as' below meth c T [] 0 0 → p.tables.exec = Jvm.exec → c.code = bytes → c.maxLocals = maxL → s.vm.findClass y.cls = some m.cls → meth.name = y.name → meth.sig.returnType = ret → T.heap = h0 → Z.Warmed39 s.vm → s.heap = h0 →
      ∀ Φ : State → Prop, Fin p l e rm s m as' below meth c Q Φ → GoP p e below Φ (T.setTop (entryFrame m as' maxL))) : Con l Z y bytes maxL ret ws rm as' h0 Q := by
  refine MetFree.of_bodySF hpn hisR ?_
  intro p e s m args below meth c s₁ Bd hml0 hP hK
  obtain ⟨rfl, hZ, hh⟩ := hP
  have e0 : s₁.heap = h0 := by rw [← hh, Bd.state]; rfl
  have hlk : meth.locks = false := Bd.notSynchronized
  obtain ⟨t, h1, o, h2⟩ := body p e s m below meth c s₁ (Stand.of_body Bd) Bd.exec Bd.bytes hml0 (findClass_of_methodNamed Bd.named) (name_of_methodNamed Bd.named Bd.method).1 Bd.returns e0 hZ hh
    (fun t => ∃ o, t.status = .running ∧ Ended t below o ∧ ∃ v L, o = .returned v ∧ Q v t.heap L ∧ FrameEnd s o t L rm.cells rm.slots)
    (fun T locs cells slots v X hv hQ hc hs => by
      obtain ⟨fs, hr, hrun, hended, hW, hsame⟩ := X.leave (v := v) hv hlk
      exact ⟨fs, hr, _, hrun, hended, v, locs, rfl, hQ, ⟨_, rfl⟩, hW, hsame.mono hc hs⟩)
  exact ⟨t, o, h1, h2⟩
theorem own_retV (X : Stand p l e R s m args below meth c T locs cells slots) (hx : p.tables.exec = Jvm.exec) (hby : c.code = bytes) {Q : Option Value → Heap → List Loc → Prop} (fin : Fin p l e R s m args below meth c Q Φ) {t : FieldType} (hret : meth.sig.returnType = some t) {w : Value} {i : Instr} (hn : narrow t w = w)
    (hi : (i = .ireturn ∧ (t = .int ∨ t = .boolean ∨ t = .byte ∨ t = .char ∨ t = .short) ∧ ∃ z, w = .int z) ∨ (i = .lreturn ∧ t = .long ∧ ∃ z, w = .long z) ∨ (i = .dreturn ∧ t = .double ∧ ∃ z, w = .double z) ∨ (i = .freturn ∧ t = .float ∧ ∃ z, w = .float z) ∨ (i = .areturn ∧ t.isReference = true ∧ w.isRef = true))
    (hd : decode bytes pc = .ok (i, 1)) (hc : cells ≤ R.cells) (hs : slots ≤ R.slots) (hQ : Q (some w) T.heap locs) : GoP p e below Φ (T.setTop (mkF m pc Ls (w :: rest))) := by
  obtain ⟨fs, hr, hΦ⟩ := fin _ _ _ _ (some w) X (fun q => by rw [hret] at q; cases q) hQ hc hs
  exact ⟨_, retOut X hx hret hn hi (hb hby hd) hr, hΦ⟩
theorem own_retI (X : Stand p l e R s m args below meth c T locs cells slots) (hx : p.tables.exec = Jvm.exec) (hby : c.code = bytes) {Q : Option Value → Heap → List Loc → Prop} (fin : Fin p l e R s m args below meth c Q Φ) (hret : meth.sig.returnType = some .int) {z : Int32} (hd : decode bytes pc = .ok (.ireturn, 1)) (hc : cells ≤ R.cells) (hs : slots ≤ R.slots) (hQ : Q (some (.int z)) T.heap locs) : GoP p e below Φ (T.setTop (mkF m pc Ls (.int z :: rest))) :=
  own_retV X hx hby fin hret rfl (Or.inl ⟨rfl, Or.inl rfl, z, rfl⟩) hd hc hs hQ
theorem own_retN (X : Stand p l e R s m args below meth c T locs cells slots) (hx : p.tables.exec = Jvm.exec) (hby : c.code = bytes) {Q : Option Value → Heap → List Loc → Prop} (fin : Fin p l e R s m args below meth c Q Φ) {t : FieldType} (hret : meth.sig.returnType = some t) (ht : t = .int ∨ t = .boolean ∨ t = .byte ∨ t = .char ∨ t = .short) {z : Int32} (hn : narrow t (.int z) = .int z) (hd : decode bytes pc = .ok (.ireturn, 1)) (hc : cells ≤ R.cells) (hs : slots ≤ R.slots) (hQ : Q (some (.int z)) T.heap locs) : GoP p e below Φ (T.setTop (mkF m pc Ls (.int z :: rest))) :=
  own_retV X hx hby fin hret hn (Or.inl ⟨rfl, ht, z, rfl⟩) hd hc hs hQ
theorem own_retJ (X : Stand p l e R s m args below meth c T locs cells slots) (hx : p.tables.exec = Jvm.exec) (hby : c.code = bytes) {Q : Option Value → Heap → List Loc → Prop} (fin : Fin p l e R s m args below meth c Q Φ) (hret : meth.sig.returnType = some .long) {z : Int64} (hd : decode bytes pc = .ok (.lreturn, 1)) (hc : cells ≤ R.cells) (hs : slots ≤ R.slots) (hQ : Q (some (.long z)) T.heap locs) : GoP p e below Φ (T.setTop (mkF m pc Ls (.long z :: rest))) :=
  own_retV X hx hby fin hret rfl (Or.inr (Or.inl ⟨rfl, rfl, z, rfl⟩)) hd hc hs hQ
theorem own_retA (X : Stand p l e R s m args below meth c T locs cells slots) (hx : p.tables.exec = Jvm.exec) (hby : c.code = bytes) {Q : Option Value → Heap → List Loc → Prop} (fin : Fin p l e R s m args below meth c Q Φ) {t : FieldType} (hret : meth.sig.returnType = some t) (ht : t.isReference = true) {w : Value} (hw : w.isRef = true) (hn : narrow t w = w) (hd : decode bytes pc = .ok (.areturn, 1)) (hc : cells ≤ R.cells) (hs : slots ≤ R.slots) (hQ : Q (some w) T.heap locs) : GoP p e below Φ (T.setTop (mkF m pc Ls (w :: rest))) :=
  own_retV X hx hby fin hret hn (Or.inr (Or.inr (Or.inr (Or.inr ⟨rfl, ht, hw⟩)))) hd hc hs hQ
theorem own_ret0 (X : Stand p l e R s m args below meth c T locs cells slots) (hx : p.tables.exec = Jvm.exec) (hby : c.code = bytes) {Q : Option Value → Heap → List Loc → Prop} (fin : Fin p l e R s m args below meth c Q Φ) (hret : meth.sig.returnType = none) (hd : decode bytes pc = .ok (.return_, 1)) (hc : cells ≤ R.cells) (hs : slots ≤ R.slots) (hQ : Q none T.heap locs) : GoP p e below Φ (T.setTop (mkF m pc Ls ([]))) := by
  obtain ⟨fs, hr, hΦ⟩ := fin _ _ _ _ none X (fun _ => rfl) hQ hc hs
  exact ⟨_, X.returnOut hx hret (hb hby hd) hr, hΦ⟩
theorem own_callS (X : Stand p l e R s m args below meth c T locs cells slots) (hx : p.tables.exec = Jvm.exec) (hby : c.code = bytes) (hZ : Z.Warmed39 s.vm) (hml : Ls.size = c.maxLocals) {own : String} {index : Nat} {y : MethodName} (hown : s.vm.findClass own = some m.cls) (w1 : (Jvm.Cond.methodLink own index y).before a0 Z = true) (w2 : (Jvm.Cond.static y).before a0 Z = true) (w3 : (Jvm.Cond.initialized y.cls).before a0 Z = true) {bytes' : ByteArray} {maxL : Nat} {ret : Option FieldType} (w4 : (Jvm.Cond.code y bytes' maxL ret).before a0 Z = true) (hy : y.cls ≠ "java/lang/invoke/MethodHandle" ∧ y.cls ≠ "java/lang/invoke/VarHandle") {rm : Room} {Q : Option Value → Heap → List Loc → Prop} (eT : T.heap = h) (W : Nat) (hf : rm.frames + 1 ≤ R.frames) (hl : W + (maxL + 11) + rm.locals ≤ R.locals) (hc : cells + rm.cells ≤ R.cells) (hs : slots + rm.slots ≤ R.slots) {argsL rest : List Value} {st : List Value} (hlen : ∀ sig, parseMethodDescriptor y.desc = some sig → argsL.length = sig.parameters.length) (hst : st = argsL.reverse ++ rest) (hM : Con l Z y bytes' maxL ret [] rm argsL.toArray h Q) (hW : (rest.map fun v => v.category).sum ≤ W) (hd : decode bytes pc = .ok (.invokestatic index, 3)) (hp : pc + 3 = pc') (k : ∀ (v : Option Value) (T' : State) (L : List Loc), Stand p l e R s m args below meth c T' (locs ++ L) (cells + rm.cells) (slots + rm.slots) → Q v T'.heap L → GoP p e below Φ (T'.setTop (mkF m pc' Ls (v.toList ++ rest)))) : GoP p e below Φ (T.setTop (mkF m pc Ls st)) := by
  obtain ⟨v, _, ⟨T', L', k', n'⟩, -, X', ⟨L, hQ, l1, y1, z1⟩, st'⟩ := Jvm.LawKit.callS X hx (y := y) hown (mvT hZ w1) (mvT hZ w2) (mvT hZ w3) (mvT hZ w4) hy (backOf (W := W) hM hZ w4 w3 hf hl) (g := mkF m pc Ls st) rfl hml (argsL := argsL) (rest := rest) hlen hst (by show 2 * 0 + _ ≤ _; omega) (hb hby hd) (fun _ _ => ⟨rfl, eT, hc, hs⟩)
  dsimp only [Pt.U, Pt.locs, Pt.cells, Pt.slots] at X' l1 y1 z1 st' hQ
  subst l1 y1 z1 hp
  exact own_step st' (k _ _ _ X' hQ)
theorem own_callI (X : Stand p l e R s m args below meth c T locs cells slots) (hx : p.tables.exec = Jvm.exec) (hby : c.code = bytes) (hZ : Z.Warmed39 s.vm) (hml : Ls.size = c.maxLocals) {own : String} {index : Nat} {y : MethodName} (hown : s.vm.findClass own = some m.cls) {a : Addr} (hn : y.name = "<init>") (w1 : (Jvm.Cond.methodLink own index y).before a0 Z = true) (w2 : (Jvm.Cond.instanceMethod y).before a0 Z = true) (w3 : (Jvm.Cond.initialized y.cls).before a0 Z = true) {bytes' : ByteArray} {maxL : Nat} (w4 : (Jvm.Cond.code y bytes' maxL none).before a0 Z = true) (hy : y.cls ≠ "java/lang/invoke/MethodHandle" ∧ y.cls ≠ "java/lang/invoke/VarHandle") {rm : Room} {Q : Option Value → Heap → List Loc → Prop} (eT : T.heap = h) (W : Nat) (hf : rm.frames + 1 ≤ R.frames) (hl : W + (maxL + 11) + rm.locals ≤ R.locals) (hc : cells + rm.cells ≤ R.cells) (hs : slots + rm.slots ≤ R.slots) {argsL rest : List Value} {st : List Value} (hlen : ∀ sig, parseMethodDescriptor y.desc = some sig → argsL.length = sig.parameters.length) (hst : st = argsL.reverse ++ .ref a :: rest) (hW : (rest.map fun v => v.category).sum ≤ W) (hM : Con l Z y bytes' maxL none [] rm (.ref a :: argsL).toArray h Q) (hd : decode bytes pc = .ok (.invokespecial index, 3)) (hp : pc + 3 = pc') (k : ∀ (v : Option Value) (T' : State) (L : List Loc), Stand p l e R s m args below meth c T' (locs ++ L) (cells + rm.cells) (slots + rm.slots) → Q v T'.heap L → GoP p e below Φ (T'.setTop (mkF m pc' Ls (v.toList ++ rest)))) : GoP p e below Φ (T.setTop (mkF m pc Ls st)) := by
  obtain ⟨v, _, ⟨T', L', k', n'⟩, -, X', ⟨L, hQ, l1, y1, z1⟩, st'⟩ := X.specialBack hx (y := y) hn hown (mvT hZ w1) (mvT hZ w2) (mvT hZ w4) hy (backOf (W := W) hM hZ w4 w3 hf hl) (g := mkF m pc Ls st) rfl hml (Steps.refl _) (a := a) (argsL := argsL) (rest := rest) hlen hst (by show 2 * 0 + _ ≤ _; omega) (hb hby hd) (fun _ _ => ⟨rfl, eT, hc, hs⟩)
  dsimp only [Pt.U, Pt.locs, Pt.cells, Pt.slots] at X' l1 y1 z1 st' hQ
  subst l1 y1 z1 hp
  exact own_trans st' (k _ _ _ X' hQ)
theorem own_callV (X : Stand p l e R s m args below meth c T locs cells slots) (hx : p.tables.exec = Jvm.exec) (hby : c.code = bytes) (hZ : Z.Warmed39 s.vm) (hml : Ls.size = c.maxLocals) {own : String} {index : Nat} {y : MethodName} (hown : s.vm.findClass own = some m.cls) {C : String} {b : Addr} (w1 : (Jvm.Cond.methodLink own index y).before a0 Z = true) (w2 : (Jvm.Cond.declares y).before a0 Z = true) (w5 : (Jvm.Cond.selects C y y).before a0 Z = true) (w6 : (Jvm.Cond.instanceMethod y).before a0 Z = true) (w3 : (Jvm.Cond.initialized y.cls).before a0 Z = true) {bytes' : ByteArray} {maxL : Nat} {ret : Option FieldType} (w4 : (Jvm.Cond.code y bytes' maxL ret).before a0 Z = true) (hy : y.cls ≠ "java/lang/invoke/MethodHandle" ∧ y.cls ≠ "java/lang/invoke/VarHandle") {rm : Room} {Q : Option Value → Heap → List Loc → Prop} (eT : T.heap = h) (W : Nat) (hf : rm.frames + 1 ≤ R.frames) (hl : W + (maxL + 11) + rm.locals ≤ R.locals) (hc : cells + rm.cells ≤ R.cells) (hs : slots + rm.slots ≤ R.slots) {argsL rest : List Value} {st : List Value} (hlen : ∀ sig, parseMethodDescriptor y.desc = some sig → argsL.length = sig.parameters.length) (hst : st = argsL.reverse ++ .ref b :: rest) (hW : (rest.map fun v => v.category).sum ≤ W) (E : Exa Z h b C) (hM : Con l Z y bytes' maxL ret [] rm (.ref b :: argsL).toArray h Q) (hd : decode bytes pc = .ok (.invokevirtual index, 3)) (hp : pc + 3 = pc') (k : ∀ (v : Option Value) (T' : State) (L : List Loc), Stand p l e R s m args below meth c T' (locs ++ L) (cells + rm.cells) (slots + rm.slots) → Q v T'.heap L → GoP p e below Φ (T'.setTop (mkF m pc' Ls (v.toList ++ rest)))) : GoP p e below Φ (T.setTop (mkF m pc Ls st)) := by
  obtain ⟨cq, kq, qa, qb, qc⟩ := isOf hZ eT E
  obtain ⟨v, _, ⟨T', L', k', n'⟩, -, X', ⟨L, hQ, l1, y1, z1⟩, st'⟩ := X.virtualBack hx (y := y) (z := y) hown (mvT hZ w1) (mvT hZ w2) (notFace_of_selects (args := #[]) (mvT hZ w5)) (mvT hZ w5) (mvT hZ w6) hy (backOf (W := W) hM hZ w4 w3 hf hl) qa qc (g := mkF m pc Ls st) rfl hml (Steps.refl _) (argsL := argsL) (rest := rest) hlen hst (by show 2 * 0 + _ ≤ _; omega) (hb hby hd) (fun _ _ => ⟨rfl, eT, hc, hs⟩)
  dsimp only [Pt.U, Pt.locs, Pt.cells, Pt.slots] at X' l1 y1 z1 st' hQ
  subst l1 y1 z1 hp
  exact own_trans st' (k _ _ _ X' hQ)
theorem own_callU (X : Stand p l e R s m args below meth c T locs cells slots) (hx : p.tables.exec = Jvm.exec) (hby : c.code = bytes) (hZ : Z.Warmed39 s.vm) (hml : Ls.size = c.maxLocals) {own : String} {index : Nat} {x0 y : MethodName} (hown : s.vm.findClass own = some m.cls) {C owner : String} {b : Addr} (w1 : (Jvm.Cond.methodLink own index x0).before a0 Z = true) (ws : (Jvm.Cond.sameMethod x0.cls owner x0.name x0.desc).before a0 Z = true) (w2 : (Jvm.Cond.declares ⟨owner, x0.name, x0.desc⟩).before a0 Z = true) (w5 : (Jvm.Cond.selects C x0 y).before a0 Z = true) (w6 : (Jvm.Cond.instanceMethod y).before a0 Z = true) (w3 : (Jvm.Cond.initialized y.cls).before a0 Z = true) {bytes' : ByteArray} {maxL : Nat} {ret : Option FieldType} (w4 : (Jvm.Cond.code y bytes' maxL ret).before a0 Z = true) (hy : owner ≠ "java/lang/invoke/MethodHandle" ∧ owner ≠ "java/lang/invoke/VarHandle") {rm : Room} {Q : Option Value → Heap → List Loc → Prop} (eT : T.heap = h) (W : Nat) (hf : rm.frames + 1 ≤ R.frames) (hl : W + (maxL + 11) + rm.locals ≤ R.locals) (hc : cells + rm.cells ≤ R.cells) (hs : slots + rm.slots ≤ R.slots) {argsL rest : List Value} {st : List Value} (hlen : ∀ sig, parseMethodDescriptor x0.desc = some sig → argsL.length = sig.parameters.length) (hst : st = argsL.reverse ++ .ref b :: rest) (hW : (rest.map fun v => v.category).sum ≤ W) (E : Exa Z h b C) (hM : Con l Z y bytes' maxL ret [] rm (.ref b :: argsL).toArray h Q) (hd : decode bytes pc = .ok (.invokevirtual index, 3)) (hp : pc + 3 = pc') (k : ∀ (v : Option Value) (T' : State) (L : List Loc), Stand p l e R s m args below meth c T' (locs ++ L) (cells + rm.cells) (slots + rm.slots) → Q v T'.heap L → GoP p e below Φ (T'.setTop (mkF m pc' Ls (v.toList ++ rest)))) : GoP p e below Φ (T.setTop (mkF m pc Ls st)) := by
  obtain ⟨cq, kq, qa, qb, qc⟩ := isOf hZ eT E
  obtain ⟨v, _, ⟨T', L', k', n'⟩, -, X', ⟨L, hQ, l1, y1, z1⟩, st'⟩ := X.virtualBackUp hx (x := x0) (y := y) hown (mvT hZ w1) (mvT hZ ws) (mvT hZ w2) hy (mvT hZ w5) (mvT hZ w6) (backOf (W := W) hM hZ w4 w3 hf hl) qa qc (g := mkF m pc Ls st) rfl hml (Steps.refl _) (argsL := argsL) (rest := rest) hlen hst (by show 2 * 0 + _ ≤ _; omega) (hb hby hd) (fun _ _ => ⟨rfl, eT, hc, hs⟩)
  dsimp only [Pt.U, Pt.locs, Pt.cells, Pt.slots] at X' l1 y1 z1 st' hQ
  subst l1 y1 z1 hp
  exact own_trans st' (k _ _ _ X' hQ)
theorem own_callF (X : Stand p l e R s m args below meth c T locs cells slots) (hx : p.tables.exec = Jvm.exec) (hby : c.code = bytes) (hZ : Z.Warmed39 s.vm) (hml : Ls.size = c.maxLocals) {own : String} {index : Nat} {x0 y : MethodName} (hown : s.vm.findClass own = some m.cls) {count : Nat} {C : String} {b : Addr} (w1 : (Jvm.Cond.methodLink own index x0).before a0 Z = true) (w2 : (Jvm.Cond.declares x0).before a0 Z = true) (w7 : (Jvm.Cond.interfaceMethod x0.cls x0.cls x0.name x0.desc).before a0 Z = true) (w5 : (Jvm.Cond.selects C x0 y).before a0 Z = true) (w6 : (Jvm.Cond.instanceMethod y).before a0 Z = true) (w8 : (Jvm.Cond.publicMethod y).before a0 Z = true) (w9 : (Jvm.Cond.unhidden C x0.name x0.desc).before a0 Z = true) (w10 : (Jvm.Cond.castable C x0.cls).before a0 Z = true) (w3 : (Jvm.Cond.initialized y.cls).before a0 Z = true) (q7 : ((Jvm.Cond.interfaceMethod x0.cls x0.cls x0.name x0.desc).onTables && (Jvm.Cond.interfaceMethod x0.cls x0.cls x0.name x0.desc).keepsFace) = true) {bytes' : ByteArray} {maxL : Nat} {ret : Option FieldType} (w4 : (Jvm.Cond.code y bytes' maxL ret).before a0 Z = true) (hy : x0.cls ≠ "java/lang/invoke/MethodHandle" ∧ x0.cls ≠ "java/lang/invoke/VarHandle") {rm : Room} {Q : Option Value → Heap → List Loc → Prop} (eT : T.heap = h) (W : Nat) (hf : rm.frames + 1 ≤ R.frames) (hl : W + (maxL + 11) + rm.locals ≤ R.locals) (hc : cells + rm.cells ≤ R.cells) (hs : slots + rm.slots ≤ R.slots) {argsL rest : List Value} {st : List Value} (hlen : ∀ sig, parseMethodDescriptor x0.desc = some sig → argsL.length = sig.parameters.length) (hst : st = argsL.reverse ++ .ref b :: rest) (hW : (rest.map fun v => v.category).sum ≤ W) (E : Exa Z h b C) (hM : Con l Z y bytes' maxL ret [] rm (.ref b :: argsL).toArray h Q) (hd : decode bytes pc = .ok (.invokeinterface index count, 5)) (hp : pc + 5 = pc') (k : ∀ (v : Option Value) (T' : State) (L : List Loc), Stand p l e R s m args below meth c T' (locs ++ L) (cells + rm.cells) (slots + rm.slots) → Q v T'.heap L → GoP p e below Φ (T'.setTop (mkF m pc' Ls (v.toList ++ rest)))) : GoP p e below Φ (T.setTop (mkF m pc Ls st)) := by
  obtain ⟨cq, kq, qa, qb, qc⟩ := isOf hZ eT E
  obtain ⟨v, _, ⟨T', L', k', n'⟩, -, X', ⟨L, hQ, l1, y1, z1⟩, st'⟩ := X.interfaceBack hx (xi := x0) (y := y) hown (mvT hZ w1) (mvT hZ w2) (mvT hZ w7 q7) (mvT hZ w5) (mvT hZ w6) (mvT hZ w8) (mvT hZ w9) (mvT hZ w10) hy (backOf (W := W) hM hZ w4 w3 hf hl) qa qb qc (g := mkF m pc Ls st) rfl hml (Steps.refl _) (argsL := argsL) (rest := rest) hlen hst (by show 2 * 0 + _ ≤ _; omega) (hb hby hd) (fun _ _ => ⟨rfl, eT, hc, hs⟩)
  dsimp only [Pt.U, Pt.locs, Pt.cells, Pt.slots] at X' l1 y1 z1 st' hQ
  subst l1 y1 z1 hp
  exact own_trans st' (k _ _ _ X' hQ)
theorem own_callP (X : Stand p l e R s m args below meth c T locs cells slots) (hx : p.tables.exec = Jvm.exec) (hby : c.code = bytes) (hZ : Z.Warmed39 s.vm) (hml : Ls.size = c.maxLocals) {own : String} {index : Nat} {y : MethodName} (hown : s.vm.findClass own = some m.cls) {C : String} {b : Addr} (w1 : (Jvm.Cond.methodLink own index y).before a0 Z = true) (w2 : (Jvm.Cond.privateMethod y).before a0 Z = true) (w5 : (Jvm.Cond.selects y.cls y y).before a0 Z = true) (w6 : (Jvm.Cond.instanceMethod y).before a0 Z = true) (w3 : (Jvm.Cond.initialized y.cls).before a0 Z = true) {bytes' : ByteArray} {maxL : Nat} {ret : Option FieldType} (w4 : (Jvm.Cond.code y bytes' maxL ret).before a0 Z = true) (hy : y.cls ≠ "java/lang/invoke/MethodHandle" ∧ y.cls ≠ "java/lang/invoke/VarHandle") {rm : Room} {Q : Option Value → Heap → List Loc → Prop} (eT : T.heap = h) (W : Nat) (hf : rm.frames + 1 ≤ R.frames) (hl : W + (maxL + 11) + rm.locals ≤ R.locals) (hc : cells + rm.cells ≤ R.cells) (hs : slots + rm.slots ≤ R.slots) {argsL rest : List Value} {st : List Value} (hlen : ∀ sig, parseMethodDescriptor y.desc = some sig → argsL.length = sig.parameters.length) (hst : st = argsL.reverse ++ .ref b :: rest) (hW : (rest.map fun v => v.category).sum ≤ W) (E : Exa Z h b C) (hM : Con l Z y bytes' maxL ret [] rm (.ref b :: argsL).toArray h Q) (hd : decode bytes pc = .ok (.invokevirtual index, 3)) (hp : pc + 3 = pc') (k : ∀ (v : Option Value) (T' : State) (L : List Loc), Stand p l e R s m args below meth c T' (locs ++ L) (cells + rm.cells) (slots + rm.slots) → Q v T'.heap L → GoP p e below Φ (T'.setTop (mkF m pc' Ls (v.toList ++ rest)))) : GoP p e below Φ (T.setTop (mkF m pc Ls st)) := by
  obtain ⟨cq, q1, q2⟩ := E.cell
  obtain ⟨v, _, ⟨T', L', k', n'⟩, -, X', ⟨L, hQ, l1, y1, z1⟩, st'⟩ := X.privateBack hx (y := y) hown (mvT hZ w1) (mvT hZ w6) (mvT hZ w5) (Cond.privateMethod_at (mvP hZ w2 (args := #[]))) (mvT hZ w4) hy (backOf (W := W) hM hZ w4 w3 hf hl) (g := mkF m pc Ls st) rfl hml (Steps.refl _) (a := b) (by rw [eT]; exact q1) q2 (argsL := argsL) (rest := rest) hlen hst (by show 2 * 0 + _ ≤ _; omega) (hb hby hd) (fun _ _ => ⟨rfl, eT, hc, hs⟩)
  dsimp only [Pt.U, Pt.locs, Pt.cells, Pt.slots] at X' l1 y1 z1 st' hQ
  subst l1 y1 z1 hp
  exact own_trans st' (k _ _ _ X' hQ)
theorem own_fldI {args : Array Value} {s : State} {t : Term} {a : Addr} {C n d : String} {k : Int32} (ev : t.eval args s none [] s = some (.ref a)) (q : (Jvm.Cond.eq (Jvm.Term.field t C n d) (Jvm.Term.int k)).value args s none s [] = some true) : Fld s s.heap a C n d (.int k) := by
  obtain ⟨x, y, e1, e2, k1, k2⟩ := cmp_v (Or.inl q)
  have ey : y = .int k := Option.some.inj (e2.symm.trans (Term.int_eval k))
  subst ey
  obtain ⟨z, rfl⟩ : ∃ z, x = .int z := k2
  have ez : z = k := by simpa [Cond.value, e1, e2] using q
  subst ez
  exact Fld.start ((fld_at ev).symm.trans e1)
theorem own_i32 (x : Int32) (k : Int) (hk : (Int32.ofInt k).toInt = k) (h : x.toInt = k) : x = Int32.ofInt k := Int32.toInt_inj.mp (h.trans hk.symm)
theorem own_stakeep {C n d : String} {w : Value} {h' : Heap} {ws : List Addr} (F : Sta Z h C n d w) (K : Keep h h' ws) (q : ∀ x ∈ ws, ∀ c : Cell, h[x]? = some c → c.vm.isStatics = false) : Sta Z h' C n d w := by
  obtain ⟨cf, i, k, f, st, cell, h1, h2, h3, h4, h5, h6, h7⟩ := F
  exact ⟨cf, i, k, f, st, cell, h1, h2, h3, h4, K.2.1 st cell h5 (fun y => by rw [q st y cell h5] at h6; cases h6), h6, h7⟩
theorem own_plainE {a : Addr} {C : String} (F : Exa Z h a C) : ∀ c : Cell, h[a]? = some c → c.vm.isStatics = false := fun c hc => by
  obtain ⟨cell, k, h1, h2, h3, h4, -⟩ := F
  cases hc.symm.trans h1; exact h4
theorem own_plainV {a : Addr} {k : ClassId} {ty : FieldType} {n : Int32} {vs : List Value} {d : Value} (F : Arv Z h a k ty n vs d) : ∀ c : Cell, h[a]? = some c → c.vm.isStatics = false := fun c hc => by
  obtain ⟨cell, A, -⟩ := F
  cases hc.symm.trans A.1; exact A.plain
/-- an int array of length n, of whatever ints -/
def IA (Z : State) (h : Heap) (a : Addr) (n : Int32) : Prop := ∃ cl : Cell, Arr Z h a cl .int ∧ cl.slots.size = n.toNatClampNeg ∧ ¬ n < 0 ∧ ∀ i, i < cl.slots.size → ∃ x, cl.slots[i]? = some (.int x)
theorem IA.lt {a : Addr} {n : Int32} (F : IA Z h a n) : a < h.size := by obtain ⟨cl, A, -⟩ := F; exact A.lt
theorem IA.ext {a : Addr} {n : Int32} {h' : Heap} (F : IA Z h a n) (E : Ext h h') : IA Z h' a n := by obtain ⟨cl, A, r⟩ := F; exact ⟨cl, A.ext E, r⟩
theorem IA.other {a b : Addr} {n : Int32} {h' : Heap} {sl : Nat} {v : Value} (F : IA Z h b n) (W : Wr h h' a sl v) (q : b ≠ a) : IA Z h' b n := by obtain ⟨cl, A, r⟩ := F; exact ⟨cl, A.other W q, r⟩
theorem IA.keep {a : Addr} {n : Int32} {h' : Heap} {ws : List Addr} (F : IA Z h a n) (K : Keep h h' ws) (q : a ∉ ws) : IA Z h' a n := by obtain ⟨cl, A, r⟩ := F; exact ⟨cl, ⟨K.2.1 a cl A.1 q, A.2⟩, r⟩
theorem IA.plain {a : Addr} {n : Int32} (F : IA Z h a n) : ∀ c : Cell, h[a]? = some c → c.vm.isStatics = false := fun c hc => by
  obtain ⟨cl, A, -⟩ := F
  cases hc.symm.trans A.1; exact A.plain
theorem IA.arv {a : Addr} {n : Int32} (F : IA Z h a n) : ∃ k vs, Arv Z h a k .int n vs (.int 0) ∧ vs.length = n.toNatClampNeg := by
  obtain ⟨cl, A, S, N, H⟩ := F
  have q : ∀ i, i < cl.slots.size → cl.slots[i]? = some (cl.slots.toList.getD i (.int 0)) := fun i hi => by
    rw [List.getD_eq_getElem?_getD, Array.getElem?_toList, Array.getElem?_eq_getElem hi]; rfl
  refine ⟨cl.cls, cl.slots.toList, ⟨cl, A, rfl, S, N, q, fun i hi => ?_⟩, by rw [Array.length_toList]; exact S⟩
  obtain ⟨x, hx⟩ := H i hi
  rw [← Option.some.inj ((hx.symm.trans (q i hi)))]; rfl
theorem IA.of {a : Addr} {n : Int32} {k : ClassId} {vs : List Value} {d : Value} (F : Arv Z h a k .int n vs d) : IA Z h a n := by
  obtain ⟨cl, A, -, S, N, H, G⟩ := F
  refine ⟨cl, A, S, N, fun i hi => ?_⟩
  obtain ⟨x, hx⟩ := fit_I (G i hi) (Or.inl rfl)
  exact ⟨x, by rw [H i hi, hx]⟩
theorem own_clamp {x : Int32} {k : Nat} (q : x.toInt ≤ k) : x.toNatClampNeg ≤ k := by simp only [Int32.toNatClampNeg]; omega
theorem own_nat {x : Int32} {k : Nat} (q : x.toInt = k) : x.toNatClampNeg = k := by simp only [Int32.toNatClampNeg]; omega
theorem own_ltI {x y : Int32} (q : x.toInt < y.toInt) : x < y := Int32.lt_iff_toInt_lt.mpr q
theorem own_geI {x y : Int32} (q : y.toInt ≤ x.toInt) : ¬ x < y := fun u => by rw [Int32.lt_iff_toInt_lt] at u; omega
theorem own_add32 {x y : Int32} {k : Int} (q : x.toInt + y.toInt = k) (h1 : -2147483648 ≤ k) (h2 : k < 2147483648) : (x + y).toInt = k := by
  have a := c_iadd x y; have b := rng32 (x + y); omega
theorem own_sub32 {x y : Int32} {k : Int} (q : x.toInt - y.toInt = k) (h1 : -2147483648 ≤ k) (h2 : k < 2147483648) : (x - y).toInt = k := by
  have a := c_isub x y; have b := rng32 (x - y); omega
theorem IA.new {a : Addr} {k : ClassId} {n : Int32} (A : Arr Z h a (newA k .int n) .int) (q : ¬ n < 0) : IA Z h a n :=
  ⟨_, A, sz_new _ _ _, q, fun i hi => ⟨0, by simp [newA] at hi ⊢; simp [defaultValue, hi]⟩⟩
theorem own_iastoreA (X : Stand p l e R s m args below meth c T locs cells slots) (hx : p.tables.exec = Jvm.exec) (hby : c.code = bytes) (hZ : Z.Warmed39 s.vm) (eT : T.heap = h) {a : Addr} {n j x : Int32} (F : IA Z h a n) (hj : ¬ j < 0 ∧ j < n) (hd : decode bytes pc = .ok (.iastore, 1)) (hp : pc + 1 = pc') (k : ∀ (T' : State) (h' : Heap), Stand p l e R s m args below meth c T' (locs ++ [⟨a, j.toNatClampNeg⟩]) cells slots → T'.heap = h' → Wr h h' a j.toNatClampNeg (.int x) → IA Z h' a n → GoP p e below Φ (T'.setTop (mkF m pc' Ls rest))) : GoP p e below Φ (T.setTop (mkF m pc Ls (.int x :: .int j :: .ref a :: rest))) := by
  subst hp
  obtain ⟨cl, A, S, N, H⟩ := F
  obtain ⟨T', h', X', e', W', st'⟩ := stI X hx hZ eT A (j := j) (x := x) (inb_of S hj) (g := mkF m pc Ls (.int x :: .int j :: .ref a :: rest)) rfl rfl (hb hby hd)
  refine own_step st' (k T' h' X' e' W' ⟨_, A.same W', by rw [sz_set]; exact S, N, fun i hi => ?_⟩)
  rw [sz_set] at hi
  by_cases q : i = j.toNatClampNeg
  · subst q; exact ⟨x, by simp [Cell.setSlot, hi]⟩
  · obtain ⟨y, hy⟩ := H i hi
    exact ⟨y, by rw [show (cl.setSlot j.toNatClampNeg (.int x)).slots[i]? = cl.slots[i]? from Array.getElem?_setIfInBounds_ne (Ne.symm q)]; exact hy⟩
theorem own_ialoadA (X : Stand p l e R s m args below meth c T locs cells slots) (hx : p.tables.exec = Jvm.exec) (hby : c.code = bytes) (hZ : Z.Warmed39 s.vm) (eT : T.heap = h) {a : Addr} {n j : Int32} (F : IA Z h a n) (hj : ¬ j < 0 ∧ j < n) (hd : decode bytes pc = .ok (.iaload, 1)) (hp : pc + 1 = pc') (k : ∀ w : Int32, GoP p e below Φ (T.setTop (mkF m pc' Ls (.int w :: rest)))) : GoP p e below Φ (T.setTop (mkF m pc Ls (.int j :: .ref a :: rest))) := by
  subst hp
  obtain ⟨cl, A, S, N, H⟩ := F
  have q := inb_of S hj
  obtain ⟨w, hw⟩ := H j.toNatClampNeg (Nat.lt_of_not_le fun y => q (Or.inr y))
  exact own_step (fun t u => X.iaload hx (j := j) (v := .int w) (by rw [eT]; exact A.1) (State.isArrayOf_alike hZ.alike A.2.1) A.2.2 q hw (g := mkF m pc Ls (.int j :: .ref a :: rest)) rfl rfl (hb hby hd) t u) (k w)
theorem own_alenA (X : Stand p l e R s m args below meth c T locs cells slots) (hx : p.tables.exec = Jvm.exec) (hby : c.code = bytes) (hZ : Z.Warmed39 s.vm) (eT : T.heap = h) {a : Addr} {n : Int32} (F : IA Z h a n) (hd : decode bytes pc = .ok (.arraylength, 1)) (hp : pc + 1 = pc') (k : GoP p e below Φ (T.setTop (mkF m pc' Ls (.int n :: rest)))) : GoP p e below Φ (T.setTop (mkF m pc Ls (.ref a :: rest))) := by
  subst hp
  obtain ⟨cl, A, S, N, H⟩ := F
  rw [← len_of S N] at k
  exact own_step (fun t u => X.arraylength hx (by rw [eT]; exact A.1) (State.isArrayOf_alike hZ.alike A.2.1) (g := mkF m pc Ls (.ref a :: rest)) rfl rfl (hb hby hd) t u) k
theorem own_copyA (X : Stand p l e R s m args below meth c T locs cells slots) (hx : p.tables.exec = Jvm.exec) (hby : c.code = bytes) (hZ : Z.Warmed39 s.vm) (hml : Ls.size = c.maxLocals) {own : String} {index : Nat} (hown : s.vm.findClass own = some m.cls) (w1 : (Jvm.Cond.methodLink own index Jvm.Stand.acN).before a0 Z = true) (w2 : (Jvm.Cond.native Jvm.Stand.acN).before a0 Z = true) (w3 : (Jvm.Cond.static Jvm.Stand.acN).before a0 Z = true) (w4 : (Jvm.Cond.initialized "java/lang/System").before a0 Z = true) (eT : T.heap = h) {a b : Addr} {n n' sp dp nn : Int32} (A : IA Z h a n) (B : IA Z h b n') (h1 : ¬ sp < 0) (h2 : ¬ dp < 0) (h3 : ¬ nn < 0) (h4 : sp.toNatClampNeg + nn.toNatClampNeg ≤ n.toNatClampNeg) (h5 : dp.toNatClampNeg + nn.toNatClampNeg ≤ n'.toNatClampNeg) {n0 : Nat} (N : Fr n0 locs) (ge : n0 ≤ b) (hf : 1 ≤ R.frames) (W : Nat) (hW : (rest.map fun v => v.category).sum ≤ W) (hlo : W + (nativeFrameWords "java/lang/System" "arraycopy" 5 + 11) ≤ R.locals) (hd : decode bytes pc = .ok (.invokestatic index, 3)) (hp : pc + 3 = pc') (k : ∀ (T' : State) (h' : Heap) (L : List Loc), Stand p l e R s m args below meth c T' L cells slots → T'.heap = h' → Fr n0 L → Keep h h' [b] → IA Z h' b n' → GoP p e below Φ (T'.setTop (mkF m pc' Ls rest))) : GoP p e below Φ (T.setTop (mkF m pc Ls (.int nn :: .int dp :: .ref b :: .int sp :: .ref a :: rest))) := by
  subst hp
  obtain ⟨k1, vs, Av, la⟩ := A.arv
  obtain ⟨k2, vd, Bv, lb⟩ := B.arv
  obtain ⟨T', h', L, X', e', N', K', B', st'⟩ := cpA X hx hZ hown w1 w2 w3 w4 eT Av Bv (Or.inl ⟨rfl, rfl⟩) h1 h2 h3 h4 h5 rfl (by rw [lb]; exact h5) N ge (g := mkF m pc Ls (.int nn :: .int dp :: .ref b :: .int sp :: .ref a :: rest)) rfl hml rfl (hb hby hd) hf (W := W) (by show 2 * 0 + _ ≤ _; omega) hlo
  exact own_step st' (k T' h' L X' e' N' K' (IA.of B'))
end OwnKit
section OwnKitV
variable {p : Program} {l : Launch} {e : Env} {R : Room} {s : State} {m : MethodId} {args : Array Value} {below : List Frame} {meth : Method} {c : Code} {T : State} {locs : List Loc} {cells slots : Nat} {bytes : ByteArray} {Φ : State → Prop} {pc pc' : Nat} {Ls Ls' : Array Slot} {rest : List Value} {Z : State} {a0 : Array Value} {h h' : Heap} {a b : Addr} {ty : FieldType} {vs : List Value} {v w : Value} {i : Nat}
/-- the array at a, of components ty, holds just vs -/
def AV (Z : State) (h : Heap) (a : Addr) (ty : FieldType) (vs : List Value) : Prop := ∃ cl : Cell, Arr Z h a cl ty ∧ cl.slots.toList = vs ∧ vs.length < 2 ^ 31
theorem AV.lt (F : AV Z h a ty vs) : a < h.size := by obtain ⟨cl, A, -⟩ := F; exact A.lt
theorem AV.ext (F : AV Z h a ty vs) (E : Ext h h') : AV Z h' a ty vs := by obtain ⟨cl, A, r⟩ := F; exact ⟨cl, A.ext E, r⟩
theorem AV.other (F : AV Z h b ty vs) (W : Wr h h' a i v) (q : b ≠ a) : AV Z h' b ty vs := by obtain ⟨cl, A, r⟩ := F; exact ⟨cl, A.other W q, r⟩
theorem AV.keep {ws : List Addr} (F : AV Z h a ty vs) (K : Keep h h' ws) (q : a ∉ ws) : AV Z h' a ty vs := by obtain ⟨cl, A, r⟩ := F; exact ⟨cl, ⟨K.2.1 a cl A.1 q, A.2⟩, r⟩
theorem AV.same (F : AV Z h a ty vs) (W : Wr h h' a i v) : AV Z h' a ty (vs.set i v) := by
  obtain ⟨cl, A, r1, r2⟩ := F
  exact ⟨_, A.same W, by rw [← r1]; simp [Cell.setSlot], by rw [List.length_set]; exact r2⟩
theorem AV.plain (F : AV Z h a ty vs) : ∀ c : Cell, h[a]? = some c → c.vm.isStatics = false := fun c hc => by
  obtain ⟨cl, A, -⟩ := F
  cases hc.symm.trans A.1; exact A.plain
theorem AV.new {k : ClassId} {n : Int32} (A : Arr Z h a (newA k ty n) ty) (q : ¬ n < 0) : AV Z h a ty (List.replicate n.toNatClampNeg (defaultValue ty)) :=
  ⟨_, A, by simp [newA], by rw [List.length_replicate]; exact (back32 q).2⟩
theorem own_inb {cl : Cell} {j : Int32} (r : cl.slots.toList = vs) (h0 : ¬ j < 0) (hl : j.toNatClampNeg < vs.length) : ¬ (j < 0 ∨ cl.slots.size ≤ j.toNatClampNeg) := fun q => q.elim h0 fun y => by
  rw [← r, Array.length_toList] at hl; omega
theorem own_get {cl : Cell} {j : Nat} (r : cl.slots.toList = vs) (hv : vs[j]? = some v) : cl.slots[j]? = some v := by rw [← Array.getElem?_toList, r]; exact hv
theorem own_lt {j : Nat} (hv : vs[j]? = some v) : j < vs.length := (List.getElem?_eq_some_iff.mp hv).1
theorem own_iaload (X : Stand p l e R s m args below meth c T locs cells slots) (hx : p.tables.exec = Jvm.exec) (hby : c.code = bytes) (hZ : Z.Warmed39 s.vm) (eT : T.heap = h) {j : Int32} (F : AV Z h a .int vs) (h0 : ¬ j < 0) (hv : vs[j.toNatClampNeg]? = some v) (hd : decode bytes pc = .ok (.iaload, 1)) (hp : pc + 1 = pc') (k : GoP p e below Φ (T.setTop (mkF m pc' Ls (v :: rest)))) : GoP p e below Φ (T.setTop (mkF m pc Ls (.int j :: .ref a :: rest))) := by
  subst hp
  obtain ⟨cl, A, r1, r2⟩ := F
  exact own_step (fun t u => X.iaload hx (j := j) (v := v) (by rw [eT]; exact A.1) (State.isArrayOf_alike hZ.alike A.2.1) A.2.2 (own_inb r1 h0 (own_lt hv)) (own_get r1 hv) (g := mkF m pc Ls (.int j :: .ref a :: rest)) rfl rfl (hb hby hd) t u) k
theorem own_laload (X : Stand p l e R s m args below meth c T locs cells slots) (hx : p.tables.exec = Jvm.exec) (hby : c.code = bytes) (hZ : Z.Warmed39 s.vm) (eT : T.heap = h) {j : Int32} (F : AV Z h a .long vs) (h0 : ¬ j < 0) (hv : vs[j.toNatClampNeg]? = some v) (hd : decode bytes pc = .ok (.laload, 1)) (hp : pc + 1 = pc') (k : GoP p e below Φ (T.setTop (mkF m pc' Ls (v :: rest)))) : GoP p e below Φ (T.setTop (mkF m pc Ls (.int j :: .ref a :: rest))) := by
  subst hp
  obtain ⟨cl, A, r1, r2⟩ := F
  exact own_step (fun t u => X.laload hx (j := j) (v := v) (by rw [eT]; exact A.1) (State.isArrayOf_alike hZ.alike A.2.1) A.2.2 (own_inb r1 h0 (own_lt hv)) (own_get r1 hv) (g := mkF m pc Ls (.int j :: .ref a :: rest)) rfl rfl (hb hby hd) t u) k
theorem own_aaload (X : Stand p l e R s m args below meth c T locs cells slots) (hx : p.tables.exec = Jvm.exec) (hby : c.code = bytes) (hZ : Z.Warmed39 s.vm) (eT : T.heap = h) {j : Int32} (F : AV Z h a ty vs) (hr : ty.isReference = true) (h0 : ¬ j < 0) (hv : vs[j.toNatClampNeg]? = some v) (hd : decode bytes pc = .ok (.aaload, 1)) (hp : pc + 1 = pc') (k : GoP p e below Φ (T.setTop (mkF m pc' Ls (v :: rest)))) : GoP p e below Φ (T.setTop (mkF m pc Ls (.int j :: .ref a :: rest))) := by
  subst hp
  obtain ⟨cl, A, r1, r2⟩ := F
  exact own_step (fun t u => X.aaload hx (j := j) (v := v) (by rw [eT]; exact A.1) (State.isArrayOf_alike hZ.alike A.2.1) hr A.2.2 (own_inb r1 h0 (own_lt hv)) (own_get r1 hv) (g := mkF m pc Ls (.int j :: .ref a :: rest)) rfl rfl (hb hby hd) t u) k
theorem own_alen (X : Stand p l e R s m args below meth c T locs cells slots) (hx : p.tables.exec = Jvm.exec) (hby : c.code = bytes) (hZ : Z.Warmed39 s.vm) (eT : T.heap = h) {n : Int32} (F : AV Z h a ty vs) (hn : Int32.ofNat vs.length = n) (hd : decode bytes pc = .ok (.arraylength, 1)) (hp : pc + 1 = pc') (k : GoP p e below Φ (T.setTop (mkF m pc' Ls (.int n :: rest)))) : GoP p e below Φ (T.setTop (mkF m pc Ls (.ref a :: rest))) := by
  subst hp
  obtain ⟨cl, A, r1, r2⟩ := F
  have q : cl.slots.size.toInt32 = n := by rw [← hn, ← r1, Array.length_toList]
  rw [← q] at k
  exact own_step (fun t u => X.arraylength hx (by rw [eT]; exact A.1) (State.isArrayOf_alike hZ.alike A.2.1) (g := mkF m pc Ls (.ref a :: rest)) rfl rfl (hb hby hd) t u) k
theorem own_iastore (X : Stand p l e R s m args below meth c T locs cells slots) (hx : p.tables.exec = Jvm.exec) (hby : c.code = bytes) (hZ : Z.Warmed39 s.vm) (eT : T.heap = h) {j : Int32} {x : Int32} (F : AV Z h a .int vs) (h0 : ¬ j < 0) (hl : j.toNatClampNeg < vs.length) (hd : decode bytes pc = .ok (.iastore, 1)) (hp : pc + 1 = pc') (k : ∀ (T' : State) (h' : Heap), Stand p l e R s m args below meth c T' (locs ++ [⟨a, j.toNatClampNeg⟩]) cells slots → T'.heap = h' → Wr h h' a j.toNatClampNeg (.int x) → AV Z h' a .int (vs.set j.toNatClampNeg (.int x)) → GoP p e below Φ (T'.setTop (mkF m pc' Ls rest))) : GoP p e below Φ (T.setTop (mkF m pc Ls ((.int x) :: .int j :: .ref a :: rest))) := by
  subst hp
  obtain ⟨cl, A, r1, r2⟩ := F
  obtain ⟨T', h', X', e', W', st'⟩ := stI X hx hZ eT A (j := j) (x := x) (own_inb r1 h0 hl) (g := mkF m pc Ls ((.int x) :: .int j :: .ref a :: rest)) rfl rfl (hb hby hd)
  exact own_step st' (k T' h' X' e' W' (AV.same ⟨cl, A, r1, r2⟩ W'))
theorem own_lastore (X : Stand p l e R s m args below meth c T locs cells slots) (hx : p.tables.exec = Jvm.exec) (hby : c.code = bytes) (hZ : Z.Warmed39 s.vm) (eT : T.heap = h) {j : Int32} {x : Int64} (F : AV Z h a .long vs) (h0 : ¬ j < 0) (hl : j.toNatClampNeg < vs.length) (hd : decode bytes pc = .ok (.lastore, 1)) (hp : pc + 1 = pc') (k : ∀ (T' : State) (h' : Heap), Stand p l e R s m args below meth c T' (locs ++ [⟨a, j.toNatClampNeg⟩]) cells slots → T'.heap = h' → Wr h h' a j.toNatClampNeg (.long x) → AV Z h' a .long (vs.set j.toNatClampNeg (.long x)) → GoP p e below Φ (T'.setTop (mkF m pc' Ls rest))) : GoP p e below Φ (T.setTop (mkF m pc Ls ((.long x) :: .int j :: .ref a :: rest))) := by
  subst hp
  obtain ⟨cl, A, r1, r2⟩ := F
  obtain ⟨T', h', X', e', W', st'⟩ := stJ X hx hZ eT A (j := j) (x := x) (own_inb r1 h0 hl) (g := mkF m pc Ls ((.long x) :: .int j :: .ref a :: rest)) rfl rfl (hb hby hd)
  exact own_step st' (k T' h' X' e' W' (AV.same ⟨cl, A, r1, r2⟩ W'))
theorem own_bastoreZ (X : Stand p l e R s m args below meth c T locs cells slots) (hx : p.tables.exec = Jvm.exec) (hby : c.code = bytes) (hZ : Z.Warmed39 s.vm) (eT : T.heap = h) {j x : Int32} (F : AV Z h a .boolean vs) (h0 : ¬ j < 0) (hl : j.toNatClampNeg < vs.length) (hd : decode bytes pc = .ok (.bastore, 1)) (hp : pc + 1 = pc') (k : ∀ (T' : State) (h' : Heap), Stand p l e R s m args below meth c T' (locs ++ [⟨a, j.toNatClampNeg⟩]) cells slots → T'.heap = h' → Wr h h' a j.toNatClampNeg (.int (nar .boolean x)) → AV Z h' a .boolean (vs.set j.toNatClampNeg (.int (nar .boolean x))) → GoP p e below Φ (T'.setTop (mkF m pc' Ls rest))) : GoP p e below Φ (T.setTop (mkF m pc Ls (.int x :: .int j :: .ref a :: rest))) := by
  subst hp
  obtain ⟨cl, A, r1, r2⟩ := F
  obtain ⟨T', h', X', e', W', st'⟩ := stZ X hx hZ eT A (j := j) (x := x) (own_inb r1 h0 hl) (g := mkF m pc Ls (.int x :: .int j :: .ref a :: rest)) rfl rfl (hb hby hd)
  exact own_step st' (k T' h' X' e' W' (AV.same ⟨cl, A, r1, r2⟩ W'))
theorem own_castore (X : Stand p l e R s m args below meth c T locs cells slots) (hx : p.tables.exec = Jvm.exec) (hby : c.code = bytes) (hZ : Z.Warmed39 s.vm) (eT : T.heap = h) {j x : Int32} (F : AV Z h a .char vs) (h0 : ¬ j < 0) (hl : j.toNatClampNeg < vs.length) (hd : decode bytes pc = .ok (.castore, 1)) (hp : pc + 1 = pc') (k : ∀ (T' : State) (h' : Heap), Stand p l e R s m args below meth c T' (locs ++ [⟨a, j.toNatClampNeg⟩]) cells slots → T'.heap = h' → Wr h h' a j.toNatClampNeg (.int (nar .char x)) → AV Z h' a .char (vs.set j.toNatClampNeg (.int (nar .char x))) → GoP p e below Φ (T'.setTop (mkF m pc' Ls rest))) : GoP p e below Φ (T.setTop (mkF m pc Ls (.int x :: .int j :: .ref a :: rest))) := by
  subst hp
  obtain ⟨cl, A, r1, r2⟩ := F
  obtain ⟨T', h', X', e', W', st'⟩ := stC X hx hZ eT A (j := j) (x := x) (own_inb r1 h0 hl) (g := mkF m pc Ls (.int x :: .int j :: .ref a :: rest)) rfl rfl (hb hby hd)
  exact own_step st' (k T' h' X' e' W' (AV.same ⟨cl, A, r1, r2⟩ W'))
theorem own_newarray (X : Stand p l e R s m args below meth c T locs cells slots) (hx : p.tables.exec = Jvm.exec) (hby : c.code = bytes) (hZ : Z.Warmed39 s.vm) {aty : ArrayType} (w1 : (Jvm.Cond.arrayClass (newarray.typeOf aty)).before a0 Z = true) (eT : T.heap = h) {n : Int32} (hn : ¬ n < 0) (cap : Nat) (hcap : n.toNatClampNeg ≤ cap) (hbb : cap * 8 ≤ 536870912) (hc : cells + 1 ≤ R.cells) (hl : slots + cap ≤ R.slots) (hd : decode bytes pc = .ok (.newarray aty, 2)) (hp : pc + 2 = pc')
    (k : ∀ (T' : State) (h' : Heap) (b : Addr), Stand p l e R s m args below meth c T' locs (cells + 1) (slots + cap) → T'.heap = h' → Ext h h' → b = h.size → AV Z h' b (newarray.typeOf aty) (List.replicate n.toNatClampNeg (defaultValue (newarray.typeOf aty))) → GoP p e below Φ (T'.setTop (mkF m pc' Ls (.ref b :: rest)))) : GoP p e below Φ (T.setTop (mkF m pc Ls (.int n :: rest))) := by
  subst hp
  obtain ⟨T', h', cA, X', e', E', A', st'⟩ := newP X hx hZ w1 eT (g := mkF m pc Ls (.int n :: rest)) rfl (hb hby hd) rfl hn hcap hbb hc hl
  exact own_step st' (k T' h' _ X' e' E' rfl (AV.new A' hn))
end OwnKitV
end Jvm.Pilot.@@N@@
namespace Jvm.Pilot.@@N@@
open Jvm Jvm.ClassFile Sem Op Lib Jvm.Free Jvm.Stand Jvm.LawKit Jvm.RoadKit Bundle Jvm.Pilot.@@N@@.Jvm.D
theorem ef_rmAC (m : MethodId) (x0 : Addr) : entryFrame m #[(.ref x0)] 1 = mkF m 0 #[.val (.ref x0)] [] := by first | (simp [entryFrame, mkF, argsToLocals, Value.category]; done) | rfl
theorem pn_java_util_AbstractCollection : plainName "java/util/AbstractCollection" = true := by first | (simp [plainName, overriddenIn]; done) | decide +kernel
theorem d_jdk_22_method_1_code_0 : decode jdk_22_method_1_code 0 = .ok (.aload_n 0, 1) := by decide +kernel
theorem d_jdk_22_method_1_code_1 : decode jdk_22_method_1_code 1 = .ok (.invokespecial 1, 3) := by decide +kernel
theorem d_jdk_22_method_1_code_4 : decode jdk_22_method_1_code 4 = .ok (.return_, 1) := by decide +kernel
set_option maxRecDepth 65536 in
set_option maxHeartbeats 40000000 in
theorem rmAC (l : Launch) (Z : State) (a0 : Array Value) (hw : ∀ d ∈ tables_1, d.before a0 Z = true) (a : Addr) (h0 : Heap)  : Con l Z (⟨"java/util/AbstractCollection", "<init>", "()V"⟩ : MethodName) jdk_22_method_1_code 1 none [] ({ frames := 1, cells := 0, slots := 0, locals := 12 } : Room) #[(.ref a)] h0 (fun v h L => v = none ∧ L = [] ∧ h = h0) := by
  refine Con.of (plainFor_of_name pn_java_util_AbstractCollection) ?_
  intro p e s m below meth c T X hx hby hml hown hnm hret eT hZ hsh Φ fin
  replace hown : s.vm.findClass "java/util/AbstractCollection" = some m.cls := hown
  replace hml : 1 = c.maxLocals := hml.symm
  refine own_step (fun t k => castTop (ef_rmAC m a) k) ?_
  refine own_aloadN X hx hby d_jdk_22_method_1_code_0 rfl rfl (pc' := 1) rfl ?_
  obtain ⟨T1, X1, e1, st1⟩ := initO X hx hZ hown (own_w hw 22 rfl) (own_w hw 23 rfl) (own_w hw 24 rfl) eT (g := (mkF m 1 #[.val (.ref a)] [(.ref a)])) rfl hml rfl (hb hby d_jdk_22_method_1_code_1) (by decide) (W := 0) (by show 2 * 0 + _ ≤ _; exact Nat.le_of_eq rfl) (by decide)
  refine own_step st1 ?_
  show GoP p e below Φ (T1.setTop (mkF m 4 #[.val (.ref a)] []))
  exact own_ret0 X1 hx hby fin hret d_jdk_22_method_1_code_4 (by decide) (by decide) ⟨rfl, rfl, e1⟩
theorem ef_rmAL (m : MethodId) (x0 : Addr) : entryFrame m #[(.ref x0)] 1 = mkF m 0 #[.val (.ref x0)] [] := by first | (simp [entryFrame, mkF, argsToLocals, Value.category]; done) | rfl
theorem pn_java_util_AbstractList : plainName "java/util/AbstractList" = true := by first | (simp [plainName, overriddenIn]; done) | decide +kernel
theorem d_jdk_39_method_1_code_0 : decode jdk_39_method_1_code 0 = .ok (.aload_n 0, 1) := by decide +kernel
theorem d_jdk_39_method_1_code_1 : decode jdk_39_method_1_code 1 = .ok (.invokespecial 1, 3) := by decide +kernel
theorem pd___V : parseMethodDescriptor "()V" = some ⟨[], none⟩ := by decide +kernel
theorem d_jdk_39_method_1_code_4 : decode jdk_39_method_1_code 4 = .ok (.aload_n 0, 1) := by decide +kernel
theorem d_jdk_39_method_1_code_5 : decode jdk_39_method_1_code 5 = .ok (.iconst 0, 1) := by decide +kernel
theorem d_jdk_39_method_1_code_6 : decode jdk_39_method_1_code 6 = .ok (.putfield 7, 3) := by decide +kernel
theorem d_jdk_39_method_1_code_9 : decode jdk_39_method_1_code 9 = .ok (.return_, 1) := by decide +kernel
set_option maxRecDepth 65536 in
set_option maxHeartbeats 40000000 in
theorem rmAL (l : Launch) (Z : State) (a0 : Array Value) (hw : ∀ d ∈ tables_1, d.before a0 Z = true) (a aD : Addr) (n0 : Nat) (h0 : Heap) (n0_a : n0 ≤ a) (E : Exa Z h0 a "java/util/ArrayList") (F1 : Fld Z h0 a "java/util/AbstractList" "modCount" "I" (.int (0 : Int32))) (F2 : Fld Z h0 a "java/util/ArrayList" "elementData" "[Ljava/lang/Object;" .null) (F3 : Fld Z h0 a "java/util/ArrayList" "size" "I" (.int (0 : Int32))) (S : Sta Z h0 "java/util/ArrayList" "DEFAULTCAPACITY_EMPTY_ELEMENTDATA" "[Ljava/lang/Object;" (.ref aD)) : Con l Z (⟨"java/util/AbstractList", "<init>", "()V"⟩ : MethodName) jdk_39_method_1_code 1 none [] ({ frames := 2, cells := 0, slots := 0, locals := 24 } : Room) #[(.ref a)] h0 (fun v h L => v = none ∧ Fr n0 L ∧ Keep h0 h [a] ∧ Exa Z h a "java/util/ArrayList" ∧ Fld Z h a "java/util/ArrayList" "elementData" "[Ljava/lang/Object;" .null ∧ Fld Z h a "java/util/ArrayList" "size" "I" (.int (0 : Int32)) ∧ Sta Z h "java/util/ArrayList" "DEFAULTCAPACITY_EMPTY_ELEMENTDATA" "[Ljava/lang/Object;" (.ref aD)) := by
  refine Con.of (plainFor_of_name pn_java_util_AbstractList) ?_
  intro p e s m below meth c T X hx hby hml hown hnm hret eT hZ hsh Φ fin
  replace hown : s.vm.findClass "java/util/AbstractList" = some m.cls := hown
  replace hml : 1 = c.maxLocals := hml.symm
  refine own_step (fun t k => castTop (ef_rmAL m a) k) ?_
  have N0 := Fr.nil n0
  have K0 : Keep h0 h0 [a] := Keep.refl h0 [a]
  refine own_aloadN X hx hby d_jdk_39_method_1_code_0 rfl rfl (pc' := 1) rfl ?_
  refine own_callI X hx hby hZ (by exact hml) hown rfl (own_w hw 16 rfl) (own_w hw 17 rfl) (own_w hw 20 rfl) (own_w hw 21 rfl) (by decide) eT 0 (by decide) (by decide) (by decide) (by decide) (argsL := []) (rest := []) (lenOf pd___V rfl) rfl (Nat.le_of_eq rfl) (rmAC l Z a0 hw a h0) d_jdk_39_method_1_code_1 (pc' := 4) rfl ?_
  intro v1 T1 L1 X1 hQ1
  obtain ⟨rfl, rfl, e1⟩ := hQ1
  rw [List.append_nil] at X1
  replace e1 : T1.heap = h0 := e1
  show GoP p e below Φ (T1.setTop (mkF m 4 #[.val (.ref a)] []))
  refine own_aloadN X1 hx hby d_jdk_39_method_1_code_4 rfl rfl (pc' := 5) rfl ?_
  refine own_iconst X1 hx hby d_jdk_39_method_1_code_5 (v := (0 : Int32)) rfl (pc' := 6) rfl ?_
  obtain ⟨T2, h2, X2, e2, W2, st2⟩ := putF X1 hx hZ hown (host := "") (Or.inl (own_w hw 25 rfl)) Via.refl e1 F1 E (Or.inl (own_w hw 26 rfl)) (own_w hw 5 rfl) (ty := .int) (by decide) rfl rfl (g := (mkF m 6 #[.val (.ref a)] [(.int (0 : Int32)), (.ref a)])) rfl rfl (hb hby d_jdk_39_method_1_code_6)
  refine own_step st2 ?_
  have E3_a := E.wr W2
  have F4_modCount := F1.same W2
  have F5_elementData := F2.other W2 (Or.inr (slot_ne (Or.inl (own_w hw 29 rfl)) (Or.inl (own_w hw 26 rfl)) (by decide) (t := (.array (.object "java/lang/Object"))) (t' := .int) (by decide) (by decide)))
  have F6_size := F3.other W2 (Or.inr (slot_ne (Or.inl (own_w hw 44 rfl)) (Or.inl (own_w hw 26 rfl)) (by decide) (t := .int) (t' := .int) (by decide) (by decide)))
  have S7_DEFAULTCAPACITY_EMPTY_ELEMENTDATA := S.wr W2
  have N2 := Fr.snoc X2 N0 n0_a
  have K2 : Keep h0 h2 [a] := K0.wr W2 (Or.inl (List.mem_of_getElem? (i := 0) rfl))
  show GoP p e below Φ (T2.setTop (mkF m 9 #[.val (.ref a)] []))
  exact own_ret0 X2 hx hby fin hret d_jdk_39_method_1_code_9 (by decide) (by decide) (by rw [e2]; exact ⟨rfl, N2, K2, E3_a, F5_elementData, F6_size, S7_DEFAULTCAPACITY_EMPTY_ELEMENTDATA⟩)
theorem ef_rmAI (m : MethodId) (x0 : Addr) : entryFrame m #[(.ref x0)] 1 = mkF m 0 #[.val (.ref x0)] [] := by first | (simp [entryFrame, mkF, argsToLocals, Value.category]; done) | rfl
theorem pn_java_util_ArrayList : plainName "java/util/ArrayList" = true := by first | (simp [plainName, overriddenIn]; done) | decide +kernel
theorem d_jdk_38_method_2_code_0 : decode jdk_38_method_2_code 0 = .ok (.aload_n 0, 1) := by decide +kernel
theorem d_jdk_38_method_2_code_1 : decode jdk_38_method_2_code 1 = .ok (.invokespecial 1, 3) := by decide +kernel
theorem d_jdk_38_method_2_code_4 : decode jdk_38_method_2_code 4 = .ok (.aload_n 0, 1) := by decide +kernel
theorem d_jdk_38_method_2_code_5 : decode jdk_38_method_2_code 5 = .ok (.getstatic 39, 3) := by decide +kernel
theorem d_jdk_38_method_2_code_8 : decode jdk_38_method_2_code 8 = .ok (.putfield 9, 3) := by decide +kernel
theorem d_jdk_38_method_2_code_11 : decode jdk_38_method_2_code 11 = .ok (.return_, 1) := by decide +kernel
set_option maxRecDepth 65536 in
set_option maxHeartbeats 40000000 in
theorem rmAI (l : Launch) (Z : State) (a0 : Array Value) (hw : ∀ d ∈ tables_1, d.before a0 Z = true) (a aD : Addr) (n0 : Nat) (h0 : Heap) (n0_a : n0 ≤ a) (E : Exa Z h0 a "java/util/ArrayList") (F1 : Fld Z h0 a "java/util/AbstractList" "modCount" "I" (.int (0 : Int32))) (F2 : Fld Z h0 a "java/util/ArrayList" "elementData" "[Ljava/lang/Object;" .null) (F3 : Fld Z h0 a "java/util/ArrayList" "size" "I" (.int (0 : Int32))) (S : Sta Z h0 "java/util/ArrayList" "DEFAULTCAPACITY_EMPTY_ELEMENTDATA" "[Ljava/lang/Object;" (.ref aD)) : Con l Z (⟨"java/util/ArrayList", "<init>", "()V"⟩ : MethodName) jdk_38_method_2_code 1 none [] ({ frames := 3, cells := 0, slots := 0, locals := 36 } : Room) #[(.ref a)] h0 (fun v h L => v = none ∧ Fr n0 L ∧ Keep h0 h [a] ∧ Exa Z h a "java/util/ArrayList" ∧ Fld Z h a "java/util/ArrayList" "size" "I" (.int (0 : Int32))) := by
  refine Con.of (plainFor_of_name pn_java_util_ArrayList) ?_
  intro p e s m below meth c T X hx hby hml hown hnm hret eT hZ hsh Φ fin
  replace hown : s.vm.findClass "java/util/ArrayList" = some m.cls := hown
  replace hml : 1 = c.maxLocals := hml.symm
  refine own_step (fun t k => castTop (ef_rmAI m a) k) ?_
  have N0 := Fr.nil n0
  have K0 : Keep h0 h0 [a] := Keep.refl h0 [a]
  refine own_aloadN X hx hby d_jdk_38_method_2_code_0 rfl rfl (pc' := 1) rfl ?_
  refine own_callI X hx hby hZ (by exact hml) hown rfl (own_w hw 10 rfl) (own_w hw 11 rfl) (own_w hw 14 rfl) (own_w hw 15 rfl) (by decide) eT 0 (by decide) (by decide) (by decide) (by decide) (argsL := []) (rest := []) (lenOf pd___V rfl) rfl (Nat.le_of_eq rfl) (rmAL l Z a0 hw a aD n0 h0 n0_a E F1 F2 F3 S) d_jdk_38_method_2_code_1 (pc' := 4) rfl ?_
  intro v1 T1 L1 X1 hQ1
  obtain ⟨rfl, Nq1, K1, E1, G21, G31, S1⟩ := hQ1
  have N1 := Fr.app N0 Nq1
  have KK1 : Keep h0 T1.heap [a] := K0.trans K1 (allS (Or.inl (List.mem_of_getElem? (i := 0) rfl)) all0)
  show GoP p e below Φ (T1.setTop (mkF m 4 #[.val (.ref a)] []))
  refine own_aloadN X1 hx hby d_jdk_38_method_2_code_4 rfl rfl (pc' := 5) rfl ?_
  obtain ⟨T2, X2, e2, st2⟩ := getS2 X1 hx hZ hown (host := "") (Or.inl (own_w hw 27 rfl)) Via.refl rfl S1 (g := (mkF m 5 #[.val (.ref a)] [(.ref a)])) rfl (hb hby d_jdk_38_method_2_code_5)
  refine own_step st2 ?_
  show GoP p e below Φ (T2.setTop (mkF m 8 #[.val (.ref a)] [(.ref aD), (.ref a)]))
  obtain ⟨T3, h3, X3, e3, W3, st3⟩ := putF X2 hx hZ hown (host := "") (Or.inl (own_w hw 28 rfl)) Via.refl e2 G21 E1 (Or.inl (own_w hw 29 rfl)) (own_w hw 5 rfl) (ty := (.array (.object "java/lang/Object"))) (by decide) rfl rfl (g := (mkF m 8 #[.val (.ref a)] [(.ref aD), (.ref a)])) rfl rfl (hb hby d_jdk_38_method_2_code_8)
  refine own_step st3 ?_
  have E4_a := E1.wr W3
  have F5_elementData := G21.same W3
  have F6_size := G31.other W3 (Or.inr (slot_ne (Or.inl (own_w hw 44 rfl)) (Or.inl (own_w hw 29 rfl)) (by decide) (t := .int) (t' := (.array (.object "java/lang/Object"))) (by decide) (by decide)))
  have S7_DEFAULTCAPACITY_EMPTY_ELEMENTDATA := S1.wr W3
  have N3 := Fr.snoc X3 N1 n0_a
  have K3 : Keep h0 h3 [a] := KK1.wr W3 (Or.inl (List.mem_of_getElem? (i := 0) rfl))
  show GoP p e below Φ (T3.setTop (mkF m 11 #[.val (.ref a)] []))
  exact own_ret0 X3 hx hby fin hret d_jdk_38_method_2_code_11 (by decide) (by decide) (by rw [e3]; exact ⟨rfl, N3, K3, E4_a, F6_size⟩)
theorem ef_rmSZ (m : MethodId) (x0 : Addr) : entryFrame m #[(.ref x0)] 1 = mkF m 0 #[.val (.ref x0)] [] := by first | (simp [entryFrame, mkF, argsToLocals, Value.category]; done) | rfl
theorem d_jdk_38_method_8_code_0 : decode jdk_38_method_8_code 0 = .ok (.aload_n 0, 1) := by decide +kernel
theorem d_jdk_38_method_8_code_1 : decode jdk_38_method_8_code 1 = .ok (.getfield 48, 3) := by decide +kernel
theorem d_jdk_38_method_8_code_4 : decode jdk_38_method_8_code 4 = .ok (.ireturn, 1) := by decide +kernel
set_option maxRecDepth 65536 in
set_option maxHeartbeats 40000000 in
theorem rmSZ (l : Launch) (Z : State) (a0 : Array Value) (hw : ∀ d ∈ tables_1, d.before a0 Z = true) (a : Addr) (h0 : Heap) (F : Fld Z h0 a "java/util/ArrayList" "size" "I" (.int (0 : Int32))) : Con l Z (⟨"java/util/ArrayList", "size", "()I"⟩ : MethodName) jdk_38_method_8_code 1 (some .int) [] ({ frames := 0, cells := 0, slots := 0, locals := 0 } : Room) #[(.ref a)] h0 (fun v h L => v = some (.int (0 : Int32)) ∧ L = [] ∧ h = h0) := by
  refine Con.of (plainFor_of_name pn_java_util_ArrayList) ?_
  intro p e s m below meth c T X hx hby hml hown hnm hret eT hZ hsh Φ fin
  replace hown : s.vm.findClass "java/util/ArrayList" = some m.cls := hown
  replace hml : 1 = c.maxLocals := hml.symm
  refine own_step (fun t k => castTop (ef_rmSZ m a) k) ?_
  refine own_aloadN X hx hby d_jdk_38_method_8_code_0 rfl rfl (pc' := 1) rfl ?_
  obtain ⟨T1, X1, e1, st1⟩ := getF X hx hZ hown (host := "") (Or.inl (own_w hw 43 rfl)) Via.refl eT F (g := (mkF m 1 #[.val (.ref a)] [(.ref a)])) rfl rfl (hb hby d_jdk_38_method_8_code_1)
  refine own_step st1 ?_
  show GoP p e below Φ (T1.setTop (mkF m 4 #[.val (.ref a)] [(.int (0 : Int32))]))
  exact own_retI X1 hx hby fin hret d_jdk_38_method_8_code_4 (by decide) (by decide) ⟨rfl, rfl, e1⟩
theorem ef_rmMin (m : MethodId) (x0 : Int32) (x1 : Int32) : entryFrame m #[(.int x0), (.int x1)] 2 = mkF m 0 #[.val (.int x0), .val (.int x1)] [] := by first | (simp [entryFrame, mkF, argsToLocals, Value.category]; done) | rfl
theorem d_jdk_29_method_69_code_0 : decode jdk_29_method_69_code 0 = .ok (.iload_n 0, 1) := by decide +kernel
theorem d_jdk_29_method_69_code_1 : decode jdk_29_method_69_code 1 = .ok (.iload_n 1, 1) := by decide +kernel
theorem d_jdk_29_method_69_code_2 : decode jdk_29_method_69_code 2 = .ok (.if_icmp .gt 7, 3) := by decide +kernel
theorem d_jdk_29_method_69_code_9 : decode jdk_29_method_69_code 9 = .ok (.iload_n 1, 1) := by decide +kernel
theorem d_jdk_29_method_69_code_10 : decode jdk_29_method_69_code 10 = .ok (.ireturn, 1) := by decide +kernel
theorem d_jdk_29_method_69_code_5 : decode jdk_29_method_69_code 5 = .ok (.iload_n 0, 1) := by decide +kernel
theorem d_jdk_29_method_69_code_6 : decode jdk_29_method_69_code 6 = .ok (.goto 4, 3) := by decide +kernel
set_option maxRecDepth 65536 in
set_option maxHeartbeats 40000000 in
theorem rmMin (l : Launch) (Z : State) (a0 : Array Value) (hw : ∀ d ∈ tables_1, d.before a0 Z = true) (p1 p2 : Int32) (h0 : Heap)  : Con l Z (⟨"java/lang/Math", "min", "(II)I"⟩ : MethodName) jdk_29_method_69_code 2 (some .int) [] ({ frames := 0, cells := 0, slots := 0, locals := 0 } : Room) #[(.int p1), (.int p2)] h0 (fun v h L => v = some (.int (if p2 < p1 then p2 else p1)) ∧ L = [] ∧ h = h0) := by
  refine Con.of (by decide +kernel) ?_
  intro p e s m below meth c T X hx hby hml hown hnm hret eT hZ hsh Φ fin
  replace hown : s.vm.findClass "java/lang/Math" = some m.cls := hown
  replace hml : 2 = c.maxLocals := hml.symm
  refine own_step (fun t k => castTop (ef_rmMin m p1 p2) k) ?_
  refine own_iloadN X hx hby d_jdk_29_method_69_code_0 rfl (pc' := 1) rfl ?_
  refine own_iloadN X hx hby d_jdk_29_method_69_code_1 rfl (pc' := 2) rfl ?_
  by_cases hc2_1 : p2 < p1
  · refine own_icmpY X hx hby d_jdk_29_method_69_code_2 (tlt hc2_1).2.2.1 (by decide) (pc' := 9) (by decide) ?_
    refine own_iloadN X hx hby d_jdk_29_method_69_code_9 rfl (pc' := 10) rfl ?_
    exact own_retI X hx hby fin hret d_jdk_29_method_69_code_10 (by decide) (by decide) ⟨by rw [if_pos hc2_1], rfl, eT⟩
  · refine own_icmpN X hx hby d_jdk_29_method_69_code_2 (flt hc2_1).2.2.1 (pc' := 5) rfl ?_
    refine own_iloadN X hx hby d_jdk_29_method_69_code_5 rfl (pc' := 6) rfl ?_
    refine own_goto X hx hby d_jdk_29_method_69_code_6 (by decide) (pc' := 10) (by decide) ?_
    exact own_retI X hx hby fin hret d_jdk_29_method_69_code_10 (by decide) (by decide) ⟨by rw [if_neg hc2_1], rfl, eT⟩
theorem ef_rmMax (m : MethodId) (x0 : Int32) (x1 : Int32) : entryFrame m #[(.int x0), (.int x1)] 2 = mkF m 0 #[.val (.int x0), .val (.int x1)] [] := by first | (simp [entryFrame, mkF, argsToLocals, Value.category]; done) | rfl
theorem d_jdk_29_method_65_code_0 : decode jdk_29_method_65_code 0 = .ok (.iload_n 0, 1) := by decide +kernel
theorem d_jdk_29_method_65_code_1 : decode jdk_29_method_65_code 1 = .ok (.iload_n 1, 1) := by decide +kernel
theorem d_jdk_29_method_65_code_2 : decode jdk_29_method_65_code 2 = .ok (.if_icmp .lt 7, 3) := by decide +kernel
theorem d_jdk_29_method_65_code_9 : decode jdk_29_method_65_code 9 = .ok (.iload_n 1, 1) := by decide +kernel
theorem d_jdk_29_method_65_code_10 : decode jdk_29_method_65_code 10 = .ok (.ireturn, 1) := by decide +kernel
theorem d_jdk_29_method_65_code_5 : decode jdk_29_method_65_code 5 = .ok (.iload_n 0, 1) := by decide +kernel
theorem d_jdk_29_method_65_code_6 : decode jdk_29_method_65_code 6 = .ok (.goto 4, 3) := by decide +kernel
set_option maxRecDepth 65536 in
set_option maxHeartbeats 40000000 in
theorem rmMax (l : Launch) (Z : State) (a0 : Array Value) (hw : ∀ d ∈ tables_1, d.before a0 Z = true) (p1 p2 : Int32) (h0 : Heap)  : Con l Z (⟨"java/lang/Math", "max", "(II)I"⟩ : MethodName) jdk_29_method_65_code 2 (some .int) [] ({ frames := 0, cells := 0, slots := 0, locals := 0 } : Room) #[(.int p1), (.int p2)] h0 (fun v h L => v = some (.int (if p1 < p2 then p2 else p1)) ∧ L = [] ∧ h = h0) := by
  refine Con.of (by decide +kernel) ?_
  intro p e s m below meth c T X hx hby hml hown hnm hret eT hZ hsh Φ fin
  replace hown : s.vm.findClass "java/lang/Math" = some m.cls := hown
  replace hml : 2 = c.maxLocals := hml.symm
  refine own_step (fun t k => castTop (ef_rmMax m p1 p2) k) ?_
  refine own_iloadN X hx hby d_jdk_29_method_65_code_0 rfl (pc' := 1) rfl ?_
  refine own_iloadN X hx hby d_jdk_29_method_65_code_1 rfl (pc' := 2) rfl ?_
  by_cases hc2_1 : p1 < p2
  · refine own_icmpY X hx hby d_jdk_29_method_65_code_2 (tlt hc2_1).1 (by decide) (pc' := 9) (by decide) ?_
    refine own_iloadN X hx hby d_jdk_29_method_65_code_9 rfl (pc' := 10) rfl ?_
    exact own_retI X hx hby fin hret d_jdk_29_method_65_code_10 (by decide) (by decide) ⟨by rw [if_pos hc2_1], rfl, eT⟩
  · refine own_icmpN X hx hby d_jdk_29_method_65_code_2 (flt hc2_1).1 (pc' := 5) rfl ?_
    refine own_iloadN X hx hby d_jdk_29_method_65_code_5 rfl (pc' := 6) rfl ?_
    refine own_goto X hx hby d_jdk_29_method_65_code_6 (by decide) (pc' := 10) (by decide) ?_
    exact own_retI X hx hby fin hret d_jdk_29_method_65_code_10 (by decide) (by decide) ⟨by rw [if_neg hc2_1], rfl, eT⟩
theorem ef_rmTh (m : MethodId) (x0 : Addr) (x1 : Int32) : entryFrame m #[(.ref x0), (.int x1)] 2 = mkF m 0 #[.val (.ref x0), .val (.int x1)] [] := by first | (simp [entryFrame, mkF, argsToLocals, Value.category]; done) | rfl
theorem pn_com_example_wayfold_wayfold_TrafficNetwork : plainName "com/example/wayfold/wayfold/TrafficNetwork" = true := by first | (simp [plainName, overriddenIn]; done) | decide +kernel
theorem d_prog_57_method_4_code_0 : decode prog_57_method_4_code 0 = .ok (.iload_n 1, 1) := by decide +kernel
theorem d_prog_57_method_4_code_1 : decode prog_57_method_4_code 1 = .ok (.aload_n 0, 1) := by decide +kernel
theorem d_prog_57_method_4_code_2 : decode prog_57_method_4_code 2 = .ok (.getfield 72, 3) := by decide +kernel
theorem d_prog_57_method_4_code_5 : decode prog_57_method_4_code 5 = .ok (.if_icmp .lt 7, 3) := by decide +kernel
theorem d_prog_57_method_4_code_12 : decode prog_57_method_4_code 12 = .ok (.iconst 0, 1) := by decide +kernel
theorem d_prog_57_method_4_code_13 : decode prog_57_method_4_code 13 = .ok (.ireturn, 1) := by decide +kernel
theorem d_prog_57_method_4_code_8 : decode prog_57_method_4_code 8 = .ok (.iconst 1, 1) := by decide +kernel
theorem d_prog_57_method_4_code_9 : decode prog_57_method_4_code 9 = .ok (.goto 4, 3) := by decide +kernel
set_option maxRecDepth 65536 in
set_option maxHeartbeats 40000000 in
theorem rmTh (l : Launch) (Z : State) (a0 : Array Value) (hw : ∀ d ∈ tables_1, d.before a0 Z = true) (a : Addr) (p1 f : Int32) (h0 : Heap) (F : Fld Z h0 a "com/example/wayfold/wayfold/TrafficNetwork" "firstThruNode" "I" (.int f)) : Con l Z (⟨"com/example/wayfold/wayfold/TrafficNetwork", "thru", "(I)Z"⟩ : MethodName) prog_57_method_4_code 2 (some .boolean) [] ({ frames := 0, cells := 0, slots := 0, locals := 0 } : Room) #[(.ref a), (.int p1)] h0 (fun v h L => v = some (.int (if p1 < f then (0 : Int32) else (1 : Int32))) ∧ L = [] ∧ h = h0) := by
  refine Con.of (plainFor_of_name pn_com_example_wayfold_wayfold_TrafficNetwork) ?_
  intro p e s m below meth c T X hx hby hml hown hnm hret eT hZ hsh Φ fin
  replace hown : s.vm.findClass "com/example/wayfold/wayfold/TrafficNetwork" = some m.cls := hown
  replace hml : 2 = c.maxLocals := hml.symm
  refine own_step (fun t k => castTop (ef_rmTh m a p1) k) ?_
  refine own_iloadN X hx hby d_prog_57_method_4_code_0 rfl (pc' := 1) rfl ?_
  refine own_aloadN X hx hby d_prog_57_method_4_code_1 rfl rfl (pc' := 2) rfl ?_
  obtain ⟨T1, X1, e1, st1⟩ := getF X hx hZ hown (host := "") (Or.inl (own_w hw 73 rfl)) Via.refl eT F (g := (mkF m 2 #[.val (.ref a), .val (.int p1)] [(.ref a), (.int p1)])) rfl rfl (hb hby d_prog_57_method_4_code_2)
  refine own_step st1 ?_
  show GoP p e below Φ (T1.setTop (mkF m 5 #[.val (.ref a), .val (.int p1)] [(.int f), (.int p1)]))
  by_cases hc5_2 : p1 < f
  · refine own_icmpY X1 hx hby d_prog_57_method_4_code_5 (tlt hc5_2).1 (by decide) (pc' := 12) (by decide) ?_
    refine own_iconst X1 hx hby d_prog_57_method_4_code_12 (v := (0 : Int32)) rfl (pc' := 13) rfl ?_
    exact own_retN X1 hx hby fin hret (by simp) rfl d_prog_57_method_4_code_13 (by decide) (by decide) ⟨by rw [if_pos hc5_2], rfl, e1⟩
  · refine own_icmpN X1 hx hby d_prog_57_method_4_code_5 (flt hc5_2).1 (pc' := 8) rfl ?_
    refine own_iconst X1 hx hby d_prog_57_method_4_code_8 (v := (1 : Int32)) rfl (pc' := 9) rfl ?_
    refine own_goto X1 hx hby d_prog_57_method_4_code_9 (by decide) (pc' := 13) (by decide) ?_
    exact own_retN X1 hx hby fin hret (by simp) rfl d_prog_57_method_4_code_13 (by decide) (by decide) ⟨by rw [if_neg hc5_2], rfl, e1⟩
theorem ef_rmFA (m : MethodId) (x0 : Addr) (x1 : Int32) : entryFrame m #[(.ref x0), (.int x1)] 2 = mkF m 0 #[.val (.ref x0), .val (.int x1)] [] := by first | (simp [entryFrame, mkF, argsToLocals, Value.category]; done) | rfl
theorem pn_com_example_wayfold_wayfold_Graph : plainName "com/example/wayfold/wayfold/Graph" = true := by first | (simp [plainName, overriddenIn]; done) | decide +kernel
theorem d_prog_19_method_10_code_0 : decode prog_19_method_10_code 0 = .ok (.aload_n 0, 1) := by decide +kernel
theorem d_prog_19_method_10_code_1 : decode prog_19_method_10_code 1 = .ok (.getfield 17, 3) := by decide +kernel
theorem d_prog_19_method_10_code_4 : decode prog_19_method_10_code 4 = .ok (.iload_n 1, 1) := by decide +kernel
theorem d_prog_19_method_10_code_5 : decode prog_19_method_10_code 5 = .ok (.iaload, 1) := by decide +kernel
theorem d_prog_19_method_10_code_6 : decode prog_19_method_10_code 6 = .ok (.ireturn, 1) := by decide +kernel
set_option maxRecDepth 65536 in
set_option maxHeartbeats 40000000 in
theorem rmFA (l : Launch) (Z : State) (a0 : Array Value) (hw : ∀ d ∈ tables_1, d.before a0 Z = true) (a fa : Addr) (p1 n : Int32) (h0 : Heap) (F : Fld Z h0 a "com/example/wayfold/wayfold/Graph" "firstArc" "[I" (.ref fa)) (I : IA Z h0 fa n) (hj : ¬ p1 < 0 ∧ p1 < n) : Con l Z (⟨"com/example/wayfold/wayfold/Graph", "firstArc", "(I)I"⟩ : MethodName) prog_19_method_10_code 2 (some .int) [] ({ frames := 0, cells := 0, slots := 0, locals := 0 } : Room) #[(.ref a), (.int p1)] h0 (fun v h L => ∃ w : Int32, v = some (.int w) ∧ L = [] ∧ h = h0) := by
  refine Con.of (plainFor_of_name pn_com_example_wayfold_wayfold_Graph) ?_
  intro p e s m below meth c T X hx hby hml hown hnm hret eT hZ hsh Φ fin
  replace hown : s.vm.findClass "com/example/wayfold/wayfold/Graph" = some m.cls := hown
  replace hml : 2 = c.maxLocals := hml.symm
  refine own_step (fun t k => castTop (ef_rmFA m a p1) k) ?_
  refine own_aloadN X hx hby d_prog_19_method_10_code_0 rfl rfl (pc' := 1) rfl ?_
  obtain ⟨T1, X1, e1, st1⟩ := getF X hx hZ hown (host := "") (Or.inl (own_w hw 63 rfl)) Via.refl eT F (g := (mkF m 1 #[.val (.ref a), .val (.int p1)] [(.ref a)])) rfl rfl (hb hby d_prog_19_method_10_code_1)
  refine own_step st1 ?_
  show GoP p e below Φ (T1.setTop (mkF m 4 #[.val (.ref a), .val (.int p1)] [(.ref fa)]))
  refine own_iloadN X1 hx hby d_prog_19_method_10_code_4 rfl (pc' := 5) rfl ?_
  refine own_ialoadA X1 hx hby hZ e1 I hj d_prog_19_method_10_code_5 (pc' := 6) rfl ?_
  intro w2
  exact own_retI X1 hx hby fin hret d_prog_19_method_10_code_6 (by decide) (by decide) ⟨_, rfl, rfl, e1⟩
theorem ef_rmGI (m : MethodId) (x0 : Addr) (x1 : Int32) (x2 : Addr) (x3 : Addr) (x4 : Addr) : entryFrame m #[(.ref x0), (.int x1), (.ref x2), (.ref x3), (.ref x4)] 5 = mkF m 0 #[.val (.ref x0), .val (.int x1), .val (.ref x2), .val (.ref x3), .val (.ref x4)] [] := by first | (simp [entryFrame, mkF, argsToLocals, Value.category]; done) | rfl
theorem d_prog_19_method_1_code_0 : decode prog_19_method_1_code 0 = .ok (.aload_n 0, 1) := by decide +kernel
theorem d_prog_19_method_1_code_1 : decode prog_19_method_1_code 1 = .ok (.invokespecial 5, 3) := by decide +kernel
theorem d_prog_19_method_1_code_4 : decode prog_19_method_1_code 4 = .ok (.aload_n 0, 1) := by decide +kernel
theorem d_prog_19_method_1_code_5 : decode prog_19_method_1_code 5 = .ok (.iload_n 1, 1) := by decide +kernel
theorem d_prog_19_method_1_code_6 : decode prog_19_method_1_code 6 = .ok (.putfield 11, 3) := by decide +kernel
theorem d_prog_19_method_1_code_9 : decode prog_19_method_1_code 9 = .ok (.aload_n 0, 1) := by decide +kernel
theorem d_prog_19_method_1_code_10 : decode prog_19_method_1_code 10 = .ok (.aload_n 2, 1) := by decide +kernel
theorem d_prog_19_method_1_code_11 : decode prog_19_method_1_code 11 = .ok (.putfield 17, 3) := by decide +kernel
theorem d_prog_19_method_1_code_14 : decode prog_19_method_1_code 14 = .ok (.aload_n 0, 1) := by decide +kernel
theorem d_prog_19_method_1_code_15 : decode prog_19_method_1_code 15 = .ok (.aload_n 3, 1) := by decide +kernel
theorem d_prog_19_method_1_code_16 : decode prog_19_method_1_code 16 = .ok (.putfield 21, 3) := by decide +kernel
theorem d_prog_19_method_1_code_19 : decode prog_19_method_1_code 19 = .ok (.aload_n 0, 1) := by decide +kernel
theorem d_prog_19_method_1_code_20 : decode prog_19_method_1_code 20 = .ok (.aload 4, 2) := by decide +kernel
theorem d_prog_19_method_1_code_22 : decode prog_19_method_1_code 22 = .ok (.putfield 24, 3) := by decide +kernel
theorem d_prog_19_method_1_code_25 : decode prog_19_method_1_code 25 = .ok (.return_, 1) := by decide +kernel
set_option maxRecDepth 65536 in
set_option maxHeartbeats 40000000 in
theorem rmGI (l : Launch) (Z : State) (a0 : Array Value) (hw : ∀ d ∈ tables_1, d.before a0 Z = true) (a : Addr) (p1 : Int32) (fa ha wa : Addr) (n0 : Nat) (h0 : Heap) (n0_a : n0 ≤ a) (E : Exa Z h0 a "com/example/wayfold/wayfold/Graph") (F_nodeCount : Fld Z h0 a "com/example/wayfold/wayfold/Graph" "nodeCount" "I" (.int (0 : Int32))) (F_firstArc : Fld Z h0 a "com/example/wayfold/wayfold/Graph" "firstArc" "[I" .null) (F_arcHead : Fld Z h0 a "com/example/wayfold/wayfold/Graph" "arcHead" "[I" .null) (F_arcWeight : Fld Z h0 a "com/example/wayfold/wayfold/Graph" "arcWeight" "[J" .null) : Con l Z (⟨"com/example/wayfold/wayfold/Graph", "<init>", "(I[I[I[J)V"⟩ : MethodName) prog_19_method_1_code 5 none [] ({ frames := 1, cells := 0, slots := 0, locals := 12 } : Room) #[(.ref a), (.int p1), (.ref fa), (.ref ha), (.ref wa)] h0 (fun v h L => v = none ∧ Fr n0 L ∧ Keep h0 h [a] ∧ Exa Z h a "com/example/wayfold/wayfold/Graph" ∧ Fld Z h a "com/example/wayfold/wayfold/Graph" "firstArc" "[I" (.ref fa)) := by
  refine Con.of (plainFor_of_name pn_com_example_wayfold_wayfold_Graph) ?_
  intro p e s m below meth c T X hx hby hml hown hnm hret eT hZ hsh Φ fin
  replace hown : s.vm.findClass "com/example/wayfold/wayfold/Graph" = some m.cls := hown
  replace hml : 5 = c.maxLocals := hml.symm
  refine own_step (fun t k => castTop (ef_rmGI m a p1 fa ha wa) k) ?_
  have N0 := Fr.nil n0
  have K0 : Keep h0 h0 [a] := Keep.refl h0 [a]
  refine own_aloadN X hx hby d_prog_19_method_1_code_0 rfl rfl (pc' := 1) rfl ?_
  obtain ⟨T1, X1, e1, st1⟩ := initO X hx hZ hown (own_w hw 60 rfl) (own_w hw 23 rfl) (own_w hw 24 rfl) eT (g := (mkF m 1 #[.val (.ref a), .val (.int p1), .val (.ref fa), .val (.ref ha), .val (.ref wa)] [(.ref a)])) rfl hml rfl (hb hby d_prog_19_method_1_code_1) (by decide) (W := 0) (by show 2 * 0 + _ ≤ _; exact Nat.le_of_eq rfl) (by decide)
  refine own_step st1 ?_
  show GoP p e below Φ (T1.setTop (mkF m 4 #[.val (.ref a), .val (.int p1), .val (.ref fa), .val (.ref ha), .val (.ref wa)] []))
  refine own_aloadN X1 hx hby d_prog_19_method_1_code_4 rfl rfl (pc' := 5) rfl ?_
  refine own_iloadN X1 hx hby d_prog_19_method_1_code_5 rfl (pc' := 6) rfl ?_
  obtain ⟨T2, h2, X2, e2, W2, st2⟩ := putF X1 hx hZ hown (host := "") (Or.inl (own_w hw 61 rfl)) Via.refl e1 F_nodeCount E (Or.inr ⟨(own_w hw 62 rfl), rfl, hnm⟩) (own_w hw 56 rfl) (ty := .int) (by decide) rfl rfl (g := (mkF m 6 #[.val (.ref a), .val (.int p1), .val (.ref fa), .val (.ref ha), .val (.ref wa)] [(.int p1), (.ref a)])) rfl rfl (hb hby d_prog_19_method_1_code_6)
  refine own_step st2 ?_
  have E3_a := E.wr W2
  have F4_nodeCount := F_nodeCount.same W2
  have F5_firstArc := F_firstArc.other W2 (Or.inr (slot_ne (Or.inr (own_w hw 64 rfl)) (Or.inr (own_w hw 62 rfl)) (by decide) (t := (.array .int)) (t' := .int) (by decide) (by decide)))
  have F6_arcHead := F_arcHead.other W2 (Or.inr (slot_ne (Or.inr (own_w hw 66 rfl)) (Or.inr (own_w hw 62 rfl)) (by decide) (t := (.array .int)) (t' := .int) (by decide) (by decide)))
  have F7_arcWeight := F_arcWeight.other W2 (Or.inr (slot_ne (Or.inr (own_w hw 68 rfl)) (Or.inr (own_w hw 62 rfl)) (by decide) (t := (.array .long)) (t' := .int) (by decide) (by decide)))
  have N2 := Fr.snoc X2 N0 n0_a
  have K2 : Keep h0 h2 [a] := K0.wr W2 (Or.inl (List.mem_of_getElem? (i := 0) rfl))
  show GoP p e below Φ (T2.setTop (mkF m 9 #[.val (.ref a), .val (.int p1), .val (.ref fa), .val (.ref ha), .val (.ref wa)] []))
  refine own_aloadN X2 hx hby d_prog_19_method_1_code_9 rfl rfl (pc' := 10) rfl ?_
  refine own_aloadN X2 hx hby d_prog_19_method_1_code_10 rfl rfl (pc' := 11) rfl ?_
  obtain ⟨T8, h8, X8, e8, W8, st8⟩ := putF X2 hx hZ hown (host := "") (Or.inl (own_w hw 63 rfl)) Via.refl e2 F5_firstArc E3_a (Or.inr ⟨(own_w hw 64 rfl), rfl, hnm⟩) (own_w hw 56 rfl) (ty := (.array .int)) (by decide) rfl rfl (g := (mkF m 11 #[.val (.ref a), .val (.int p1), .val (.ref fa), .val (.ref ha), .val (.ref wa)] [(.ref fa), (.ref a)])) rfl rfl (hb hby d_prog_19_method_1_code_11)
  refine own_step st8 ?_
  have E9_a := E3_a.wr W8
  have F10_nodeCount := F4_nodeCount.other W8 (Or.inr (slot_ne (Or.inr (own_w hw 62 rfl)) (Or.inr (own_w hw 64 rfl)) (by decide) (t := .int) (t' := (.array .int)) (by decide) (by decide)))
  have F11_firstArc := F5_firstArc.same W8
  have F12_arcHead := F6_arcHead.other W8 (Or.inr (slot_ne (Or.inr (own_w hw 66 rfl)) (Or.inr (own_w hw 64 rfl)) (by decide) (t := (.array .int)) (t' := (.array .int)) (by decide) (by decide)))
  have F13_arcWeight := F7_arcWeight.other W8 (Or.inr (slot_ne (Or.inr (own_w hw 68 rfl)) (Or.inr (own_w hw 64 rfl)) (by decide) (t := (.array .long)) (t' := (.array .int)) (by decide) (by decide)))
  have N8 := Fr.snoc X8 N2 n0_a
  have K8 : Keep h0 h8 [a] := K2.wr W8 (Or.inl (List.mem_of_getElem? (i := 0) rfl))
  show GoP p e below Φ (T8.setTop (mkF m 14 #[.val (.ref a), .val (.int p1), .val (.ref fa), .val (.ref ha), .val (.ref wa)] []))
  refine own_aloadN X8 hx hby d_prog_19_method_1_code_14 rfl rfl (pc' := 15) rfl ?_
  refine own_aloadN X8 hx hby d_prog_19_method_1_code_15 rfl rfl (pc' := 16) rfl ?_
  obtain ⟨T14, h14, X14, e14, W14, st14⟩ := putF X8 hx hZ hown (host := "") (Or.inl (own_w hw 65 rfl)) Via.refl e8 F12_arcHead E9_a (Or.inr ⟨(own_w hw 66 rfl), rfl, hnm⟩) (own_w hw 56 rfl) (ty := (.array .int)) (by decide) rfl rfl (g := (mkF m 16 #[.val (.ref a), .val (.int p1), .val (.ref fa), .val (.ref ha), .val (.ref wa)] [(.ref ha), (.ref a)])) rfl rfl (hb hby d_prog_19_method_1_code_16)
  refine own_step st14 ?_
  have E15_a := E9_a.wr W14
  have F16_nodeCount := F10_nodeCount.other W14 (Or.inr (slot_ne (Or.inr (own_w hw 62 rfl)) (Or.inr (own_w hw 66 rfl)) (by decide) (t := .int) (t' := (.array .int)) (by decide) (by decide)))
  have F17_firstArc := F11_firstArc.other W14 (Or.inr (slot_ne (Or.inr (own_w hw 64 rfl)) (Or.inr (own_w hw 66 rfl)) (by decide) (t := (.array .int)) (t' := (.array .int)) (by decide) (by decide)))
  have F18_arcHead := F12_arcHead.same W14
  have F19_arcWeight := F13_arcWeight.other W14 (Or.inr (slot_ne (Or.inr (own_w hw 68 rfl)) (Or.inr (own_w hw 66 rfl)) (by decide) (t := (.array .long)) (t' := (.array .int)) (by decide) (by decide)))
  have N14 := Fr.snoc X14 N8 n0_a
  have K14 : Keep h0 h14 [a] := K8.wr W14 (Or.inl (List.mem_of_getElem? (i := 0) rfl))
  show GoP p e below Φ (T14.setTop (mkF m 19 #[.val (.ref a), .val (.int p1), .val (.ref fa), .val (.ref ha), .val (.ref wa)] []))
  refine own_aloadN X14 hx hby d_prog_19_method_1_code_19 rfl rfl (pc' := 20) rfl ?_
  refine own_aload X14 hx hby d_prog_19_method_1_code_20 rfl rfl (pc' := 22) rfl ?_
  obtain ⟨T20, h20, X20, e20, W20, st20⟩ := putF X14 hx hZ hown (host := "") (Or.inl (own_w hw 67 rfl)) Via.refl e14 F19_arcWeight E15_a (Or.inr ⟨(own_w hw 68 rfl), rfl, hnm⟩) (own_w hw 56 rfl) (ty := (.array .long)) (by decide) rfl rfl (g := (mkF m 22 #[.val (.ref a), .val (.int p1), .val (.ref fa), .val (.ref ha), .val (.ref wa)] [(.ref wa), (.ref a)])) rfl rfl (hb hby d_prog_19_method_1_code_22)
  refine own_step st20 ?_
  have E21_a := E15_a.wr W20
  have F22_nodeCount := F16_nodeCount.other W20 (Or.inr (slot_ne (Or.inr (own_w hw 62 rfl)) (Or.inr (own_w hw 68 rfl)) (by decide) (t := .int) (t' := (.array .long)) (by decide) (by decide)))
  have F23_firstArc := F17_firstArc.other W20 (Or.inr (slot_ne (Or.inr (own_w hw 64 rfl)) (Or.inr (own_w hw 68 rfl)) (by decide) (t := (.array .int)) (t' := (.array .long)) (by decide) (by decide)))
  have F24_arcHead := F18_arcHead.other W20 (Or.inr (slot_ne (Or.inr (own_w hw 66 rfl)) (Or.inr (own_w hw 68 rfl)) (by decide) (t := (.array .int)) (t' := (.array .long)) (by decide) (by decide)))
  have F25_arcWeight := F19_arcWeight.same W20
  have N20 := Fr.snoc X20 N14 n0_a
  have K20 : Keep h0 h20 [a] := K14.wr W20 (Or.inl (List.mem_of_getElem? (i := 0) rfl))
  show GoP p e below Φ (T20.setTop (mkF m 25 #[.val (.ref a), .val (.int p1), .val (.ref fa), .val (.ref ha), .val (.ref wa)] []))
  exact own_ret0 X20 hx hby fin hret d_prog_19_method_1_code_25 (by decide) (by decide) (by rw [e20]; exact ⟨rfl, N20, K20, E21_a, F23_firstArc⟩)
theorem own_z0 : (0 : Int32).toInt = 0 := by decide
theorem own_z1 : (1 : Int32).toInt = 1 := by decide
theorem own_z2 : (2 : Int32).toInt = 2 := by decide
theorem own_n1 {n : Int32} (h1 : 1 ≤ n.toInt) (h2 : n.toInt ≤ 16) : (n + (1 : Int32)).toInt = n.toInt + 1 := own_add32 (by rw [own_z1]) (by omega) (by omega)
theorem own_n2 {n : Int32} (h1 : 1 ≤ n.toInt) (h2 : n.toInt ≤ 16) : (n + (2 : Int32)).toInt = n.toInt + 2 := own_add32 (by rw [own_z2]) (by omega) (by omega)
theorem own_j1 {j n : Int32} (h1 : 1 ≤ j.toInt) (h2 : j.toInt ≤ n.toInt) (h3 : n.toInt ≤ 16) : (j + (1 : Int32)).toInt = j.toInt + 1 := own_add32 (by rw [own_z1]) (by omega) (by omega)
theorem ef_rmG (m : MethodId) (x0 : Int32) (x1 : Int32) (x2 : Addr) (x3 : Addr) (x4 : Addr) : entryFrame m #[(.int x0), (.int x1), (.ref x2), (.ref x3), (.ref x4)] 13 = mkF m 0 #[.val (.int x0), .val (.int x1), .val (.ref x2), .val (.ref x3), .val (.ref x4), .unset, .unset, .unset, .unset, .unset, .unset, .unset, .unset] [] := by first | (simp [entryFrame, mkF, argsToLocals, Value.category]; done) | rfl
theorem d_prog_19_method_2_code_0 : decode prog_19_method_2_code 0 = .ok (.iload_n 0, 1) := by decide +kernel
theorem d_prog_19_method_2_code_1 : decode prog_19_method_2_code 1 = .ok (.ifCond .lt 26, 3) := by decide +kernel
theorem d_prog_19_method_2_code_4 : decode prog_19_method_2_code 4 = .ok (.iload_n 1, 1) := by decide +kernel
theorem d_prog_19_method_2_code_5 : decode prog_19_method_2_code 5 = .ok (.ifCond .lt 22, 3) := by decide +kernel
theorem d_prog_19_method_2_code_8 : decode prog_19_method_2_code 8 = .ok (.iload_n 1, 1) := by decide +kernel
theorem d_prog_19_method_2_code_9 : decode prog_19_method_2_code 9 = .ok (.aload_n 2, 1) := by decide +kernel
theorem d_prog_19_method_2_code_10 : decode prog_19_method_2_code 10 = .ok (.arraylength, 1) := by decide +kernel
theorem d_prog_19_method_2_code_11 : decode prog_19_method_2_code 11 = .ok (.if_icmp .gt 16, 3) := by decide +kernel
theorem d_prog_19_method_2_code_14 : decode prog_19_method_2_code 14 = .ok (.iload_n 1, 1) := by decide +kernel
theorem d_prog_19_method_2_code_15 : decode prog_19_method_2_code 15 = .ok (.aload_n 3, 1) := by decide +kernel
theorem d_prog_19_method_2_code_16 : decode prog_19_method_2_code 16 = .ok (.arraylength, 1) := by decide +kernel
theorem d_prog_19_method_2_code_17 : decode prog_19_method_2_code 17 = .ok (.if_icmp .gt 10, 3) := by decide +kernel
theorem d_prog_19_method_2_code_20 : decode prog_19_method_2_code 20 = .ok (.iload_n 1, 1) := by decide +kernel
theorem d_prog_19_method_2_code_21 : decode prog_19_method_2_code 21 = .ok (.aload 4, 2) := by decide +kernel
theorem d_prog_19_method_2_code_23 : decode prog_19_method_2_code 23 = .ok (.arraylength, 1) := by decide +kernel
theorem d_prog_19_method_2_code_24 : decode prog_19_method_2_code 24 = .ok (.if_icmp .le 18, 3) := by decide +kernel
theorem d_prog_19_method_2_code_42 : decode prog_19_method_2_code 42 = .ok (.iload_n 0, 1) := by decide +kernel
theorem d_prog_19_method_2_code_43 : decode prog_19_method_2_code 43 = .ok (.iconst 2, 1) := by decide +kernel
theorem d_prog_19_method_2_code_44 : decode prog_19_method_2_code 44 = .ok (.iadd, 1) := by decide +kernel
theorem d_prog_19_method_2_code_45 : decode prog_19_method_2_code 45 = .ok (.newarray .int, 2) := by decide +kernel
theorem d_prog_19_method_2_code_47 : decode prog_19_method_2_code 47 = .ok (.astore 5, 2) := by decide +kernel
theorem d_prog_19_method_2_code_49 : decode prog_19_method_2_code 49 = .ok (.lconst 0, 1) := by decide +kernel
theorem d_prog_19_method_2_code_50 : decode prog_19_method_2_code 50 = .ok (.lstore 6, 2) := by decide +kernel
theorem d_prog_19_method_2_code_52 : decode prog_19_method_2_code 52 = .ok (.iconst 0, 1) := by decide +kernel
theorem d_prog_19_method_2_code_53 : decode prog_19_method_2_code 53 = .ok (.istore 8, 2) := by decide +kernel
theorem d_prog_19_method_2_code_55 : decode prog_19_method_2_code 55 = .ok (.iload 8, 2) := by decide +kernel
theorem d_prog_19_method_2_code_57 : decode prog_19_method_2_code 57 = .ok (.iload_n 1, 1) := by decide +kernel
theorem d_prog_19_method_2_code_58 : decode prog_19_method_2_code 58 = .ok (.if_icmp .ge 97, 3) := by decide +kernel
theorem d_prog_19_method_2_code_155 : decode prog_19_method_2_code 155 = .ok (.iconst 1, 1) := by decide +kernel
theorem d_prog_19_method_2_code_156 : decode prog_19_method_2_code 156 = .ok (.istore 8, 2) := by decide +kernel
theorem d_prog_19_method_2_code_158 : decode prog_19_method_2_code 158 = .ok (.iload 8, 2) := by decide +kernel
theorem d_prog_19_method_2_code_160 : decode prog_19_method_2_code 160 = .ok (.iload_n 0, 1) := by decide +kernel
theorem d_prog_19_method_2_code_161 : decode prog_19_method_2_code 161 = .ok (.if_icmp .gt 24, 3) := by decide +kernel
theorem d_prog_19_method_2_code_185 : decode prog_19_method_2_code 185 = .ok (.iload_n 0, 1) := by decide +kernel
theorem d_prog_19_method_2_code_186 : decode prog_19_method_2_code 186 = .ok (.iconst 1, 1) := by decide +kernel
theorem d_prog_19_method_2_code_187 : decode prog_19_method_2_code 187 = .ok (.iadd, 1) := by decide +kernel
theorem d_prog_19_method_2_code_188 : decode prog_19_method_2_code 188 = .ok (.newarray .int, 2) := by decide +kernel
theorem d_prog_19_method_2_code_190 : decode prog_19_method_2_code 190 = .ok (.astore 8, 2) := by decide +kernel
theorem d_prog_19_method_2_code_192 : decode prog_19_method_2_code 192 = .ok (.aload 5, 2) := by decide +kernel
theorem d_prog_19_method_2_code_194 : decode prog_19_method_2_code 194 = .ok (.iconst 0, 1) := by decide +kernel
theorem d_prog_19_method_2_code_195 : decode prog_19_method_2_code 195 = .ok (.aload 8, 2) := by decide +kernel
theorem d_prog_19_method_2_code_197 : decode prog_19_method_2_code 197 = .ok (.iconst 0, 1) := by decide +kernel
theorem d_prog_19_method_2_code_198 : decode prog_19_method_2_code 198 = .ok (.iload_n 0, 1) := by decide +kernel
theorem d_prog_19_method_2_code_199 : decode prog_19_method_2_code 199 = .ok (.iconst 1, 1) := by decide +kernel
theorem d_prog_19_method_2_code_200 : decode prog_19_method_2_code 200 = .ok (.iadd, 1) := by decide +kernel
theorem d_prog_19_method_2_code_201 : decode prog_19_method_2_code 201 = .ok (.invokestatic 50, 3) := by decide +kernel
theorem d_prog_19_method_2_code_204 : decode prog_19_method_2_code 204 = .ok (.iload_n 1, 1) := by decide +kernel
theorem d_prog_19_method_2_code_205 : decode prog_19_method_2_code 205 = .ok (.newarray .int, 2) := by decide +kernel
theorem d_prog_19_method_2_code_207 : decode prog_19_method_2_code 207 = .ok (.astore 9, 2) := by decide +kernel
theorem d_prog_19_method_2_code_209 : decode prog_19_method_2_code 209 = .ok (.iload_n 1, 1) := by decide +kernel
theorem d_prog_19_method_2_code_210 : decode prog_19_method_2_code 210 = .ok (.newarray .long, 2) := by decide +kernel
theorem d_prog_19_method_2_code_212 : decode prog_19_method_2_code 212 = .ok (.astore 10, 2) := by decide +kernel
theorem d_prog_19_method_2_code_214 : decode prog_19_method_2_code 214 = .ok (.iconst 0, 1) := by decide +kernel
theorem d_prog_19_method_2_code_215 : decode prog_19_method_2_code 215 = .ok (.istore 11, 2) := by decide +kernel
theorem d_prog_19_method_2_code_217 : decode prog_19_method_2_code 217 = .ok (.iload 11, 2) := by decide +kernel
theorem d_prog_19_method_2_code_219 : decode prog_19_method_2_code 219 = .ok (.iload_n 1, 1) := by decide +kernel
theorem d_prog_19_method_2_code_220 : decode prog_19_method_2_code 220 = .ok (.if_icmp .ge 42, 3) := by decide +kernel
theorem d_prog_19_method_2_code_262 : decode prog_19_method_2_code 262 = .ok (.new 12, 3) := by decide +kernel
theorem d_prog_19_method_2_code_265 : decode prog_19_method_2_code 265 = .ok (.dup, 1) := by decide +kernel
theorem d_prog_19_method_2_code_266 : decode prog_19_method_2_code 266 = .ok (.iload_n 0, 1) := by decide +kernel
theorem d_prog_19_method_2_code_267 : decode prog_19_method_2_code 267 = .ok (.aload 5, 2) := by decide +kernel
theorem d_prog_19_method_2_code_269 : decode prog_19_method_2_code 269 = .ok (.aload 9, 2) := by decide +kernel
theorem d_prog_19_method_2_code_271 : decode prog_19_method_2_code 271 = .ok (.aload 10, 2) := by decide +kernel
theorem d_prog_19_method_2_code_273 : decode prog_19_method_2_code 273 = .ok (.invokespecial 56, 3) := by decide +kernel
theorem pd__I_I_I_J_V : parseMethodDescriptor "(I[I[I[J)V" = some ⟨[.int, (.array .int), (.array .int), (.array .long)], none⟩ := by decide +kernel
theorem d_prog_19_method_2_code_276 : decode prog_19_method_2_code 276 = .ok (.areturn, 1) := by decide +kernel
theorem d_prog_19_method_2_code_164 : decode prog_19_method_2_code 164 = .ok (.aload 5, 2) := by decide +kernel
theorem d_prog_19_method_2_code_166 : decode prog_19_method_2_code 166 = .ok (.iload 8, 2) := by decide +kernel
theorem d_prog_19_method_2_code_168 : decode prog_19_method_2_code 168 = .ok (.iconst 1, 1) := by decide +kernel
theorem d_prog_19_method_2_code_169 : decode prog_19_method_2_code 169 = .ok (.iadd, 1) := by decide +kernel
theorem d_prog_19_method_2_code_170 : decode prog_19_method_2_code 170 = .ok (.dup2, 1) := by decide +kernel
theorem d_prog_19_method_2_code_171 : decode prog_19_method_2_code 171 = .ok (.iaload, 1) := by decide +kernel
theorem d_prog_19_method_2_code_172 : decode prog_19_method_2_code 172 = .ok (.aload 5, 2) := by decide +kernel
theorem d_prog_19_method_2_code_174 : decode prog_19_method_2_code 174 = .ok (.iload 8, 2) := by decide +kernel
theorem d_prog_19_method_2_code_176 : decode prog_19_method_2_code 176 = .ok (.iaload, 1) := by decide +kernel
theorem d_prog_19_method_2_code_177 : decode prog_19_method_2_code 177 = .ok (.iadd, 1) := by decide +kernel
theorem d_prog_19_method_2_code_178 : decode prog_19_method_2_code 178 = .ok (.iastore, 1) := by decide +kernel
theorem d_prog_19_method_2_code_179 : decode prog_19_method_2_code 179 = .ok (.iinc 8 1, 3) := by decide +kernel
theorem d_prog_19_method_2_code_182 : decode prog_19_method_2_code 182 = .ok (.goto (-24), 3) := by decide +kernel
set_option maxRecDepth 65536 in
set_option maxHeartbeats 40000000 in
theorem rmG (l : Launch) (Z : State) (a0 : Array Value) (hw : ∀ d ∈ tables_1, d.before a0 Z = true) (p1 : Int32) (ta hd wt : Addr) (n0 : Nat) (h0 : Heap) (Z0 : n0 ≤ h0.size) (hn1 : 1 ≤ p1.toInt) (hn2 : p1.toInt ≤ 16) (It : IA Z h0 ta (0 : Int32)) (Ih : IA Z h0 hd (0 : Int32)) (Vw : AV Z h0 wt .long []) : Con l Z (⟨"com/example/wayfold/wayfold/Graph", "of", "(II[I[I[J)Lcom/example/wayfold/wayfold/Graph;"⟩ : MethodName) prog_19_method_2_code 13 (some (.object "com/example/wayfold/wayfold/Graph")) [] ({ frames := 2, cells := 5, slots := 39, locals := 60 } : Room) #[(.int p1), (.int (0 : Int32)), (.ref ta), (.ref hd), (.ref wt)] h0 (fun v h L => ∃ gr fa : Addr, v = some (.ref gr) ∧ Fr n0 L ∧ Keep h0 h [] ∧ h0.size ≤ gr ∧ h0.size ≤ fa ∧ Exa Z h gr "com/example/wayfold/wayfold/Graph" ∧ Fld Z h gr "com/example/wayfold/wayfold/Graph" "firstArc" "[I" (.ref fa) ∧ IA Z h fa (p1 + (2 : Int32))) := by
  refine Con.of (plainFor_of_name pn_com_example_wayfold_wayfold_Graph) ?_
  intro p e s m below meth c T X hx hby hml hown hnm hret eT hZ hsh Φ fin
  replace hown : s.vm.findClass "com/example/wayfold/wayfold/Graph" = some m.cls := hown
  replace hml : 13 = c.maxLocals := hml.symm
  refine own_step (fun t k => castTop (ef_rmG m p1 (0 : Int32) ta hd wt) k) ?_
  have N0 := Fr.nil n0
  have K0 : Keep h0 h0 [] := Keep.refl h0 []
  have e1 := own_n1 hn1 hn2
  have e2 := own_n2 hn1 hn2
  refine own_iloadN X hx hby d_prog_19_method_2_code_0 rfl (pc' := 1) rfl ?_
  refine own_ifN X hx hby d_prog_19_method_2_code_1 ((if0 _ _).trans (flt (own_geI (by rw [own_z0]; omega))).1) (pc' := 4) rfl ?_
  refine own_iloadN X hx hby d_prog_19_method_2_code_4 rfl (pc' := 5) rfl ?_
  refine own_ifN X hx hby d_prog_19_method_2_code_5 ((if0 _ _).trans (flt (by decide)).1) (pc' := 8) rfl ?_
  refine own_iloadN X hx hby d_prog_19_method_2_code_8 rfl (pc' := 9) rfl ?_
  refine own_aloadN X hx hby d_prog_19_method_2_code_9 rfl rfl (pc' := 10) rfl ?_
  refine own_alenA X hx hby hZ eT It d_prog_19_method_2_code_10 (pc' := 11) rfl ?_
  refine own_icmpN X hx hby d_prog_19_method_2_code_11 (flt (by decide)).2.2.1 (pc' := 14) rfl ?_
  refine own_iloadN X hx hby d_prog_19_method_2_code_14 rfl (pc' := 15) rfl ?_
  refine own_aloadN X hx hby d_prog_19_method_2_code_15 rfl rfl (pc' := 16) rfl ?_
  refine own_alenA X hx hby hZ eT Ih d_prog_19_method_2_code_16 (pc' := 17) rfl ?_
  refine own_icmpN X hx hby d_prog_19_method_2_code_17 (flt (by decide)).2.2.1 (pc' := 20) rfl ?_
  refine own_iloadN X hx hby d_prog_19_method_2_code_20 rfl (pc' := 21) rfl ?_
  refine own_aload X hx hby d_prog_19_method_2_code_21 rfl rfl (pc' := 23) rfl ?_
  refine own_alen X hx hby hZ eT (n := (0 : Int32)) Vw rfl d_prog_19_method_2_code_23 (pc' := 24) rfl ?_
  refine own_icmpY X hx hby d_prog_19_method_2_code_24 (flt (by decide)).2.2.2 (by decide) (pc' := 42) (by decide) ?_
  refine own_iloadN X hx hby d_prog_19_method_2_code_42 rfl (pc' := 43) rfl ?_
  refine own_iconst X hx hby d_prog_19_method_2_code_43 (v := (2 : Int32)) rfl (pc' := 44) rfl ?_
  refine own_iadd X hx hby d_prog_19_method_2_code_44 (pc' := 45) rfl ?_
  obtain ⟨T1, h1, k1, X1, e1, E1, A1, st1⟩ := newP X hx hZ (own_w hw 45 rfl) eT (g := (mkF m 45 #[.val (.int p1), .val (.int (0 : Int32)), .val (.ref ta), .val (.ref hd), .val (.ref wt), .unset, .unset, .unset, .unset, .unset, .unset, .unset, .unset] [(.int (p1 + (2 : Int32)))])) rfl (hb hby d_prog_19_method_2_code_45) rfl (own_geI (by rw [own_z0]; omega)) (cap := 18) (own_clamp (by omega)) (by decide) (by decide) (by decide)
  obtain ⟨b1, g1⟩ : ∃ z, z = h0.size := ⟨_, rfl⟩
  have ne_ta_b1 : ta ≠ b1 := Nat.ne_of_lt (g1 ▸ It.lt)
  have ne_hd_b1 : hd ≠ b1 := Nat.ne_of_lt (g1 ▸ Ih.lt)
  have ne_wt_b1 : wt ≠ b1 := Nat.ne_of_lt (g1 ▸ Vw.lt)
  have I2_ta := It.ext E1
  have I3_hd := Ih.ext E1
  have V4_wt := Vw.ext E1
  have Z1 : n0 ≤ h1.size := Nat.le_trans Z0 E1.1
  have n0_b1 : n0 ≤ b1 := g1 ▸ Z0
  have sz_b1 : h0.size ≤ b1 := g1 ▸ K0.1
  have K1 : Keep h0 h1 [] := K0.ext E1
  rw [← g1] at A1 st1
  refine own_step st1 ?_
  have I1 : IA Z h1 b1 (p1 + (2 : Int32)) := IA.new A1 (own_geI (by rw [own_z0]; omega))
  show GoP p e below Φ (T1.setTop (mkF m 47 #[.val (.int p1), .val (.int (0 : Int32)), .val (.ref ta), .val (.ref hd), .val (.ref wt), .unset, .unset, .unset, .unset, .unset, .unset, .unset, .unset] [(.ref b1)]))
  refine own_astore X1 hx hby d_prog_19_method_2_code_47 rfl (Ls' := #[.val (.int p1), .val (.int (0 : Int32)), .val (.ref ta), .val (.ref hd), .val (.ref wt), .val (.ref b1), .unset, .unset, .unset, .unset, .unset, .unset, .unset]) rfl (pc' := 49) rfl ?_
  refine own_lconst X1 hx hby d_prog_19_method_2_code_49 (v := (0 : Int64)) rfl (pc' := 50) rfl ?_
  refine own_lstore X1 hx hby d_prog_19_method_2_code_50  (Ls' := #[.val (.int p1), .val (.int (0 : Int32)), .val (.ref ta), .val (.ref hd), .val (.ref wt), .val (.ref b1), .val (.long (0 : Int64)), .second, .unset, .unset, .unset, .unset, .unset]) rfl (pc' := 52) rfl ?_
  refine own_iconst X1 hx hby d_prog_19_method_2_code_52 (v := (0 : Int32)) rfl (pc' := 53) rfl ?_
  refine own_istore X1 hx hby d_prog_19_method_2_code_53  (Ls' := #[.val (.int p1), .val (.int (0 : Int32)), .val (.ref ta), .val (.ref hd), .val (.ref wt), .val (.ref b1), .val (.long (0 : Int64)), .second, .val (.int (0 : Int32)), .unset, .unset, .unset, .unset]) rfl (pc' := 55) rfl ?_
  refine own_iload X1 hx hby d_prog_19_method_2_code_55 rfl (pc' := 57) rfl ?_
  refine own_iloadN X1 hx hby d_prog_19_method_2_code_57 rfl (pc' := 58) rfl ?_
  refine own_icmpY X1 hx hby d_prog_19_method_2_code_58 (flt (by decide)).2.1 (by decide) (pc' := 155) (by decide) ?_
  refine own_iconst X1 hx hby d_prog_19_method_2_code_155 (v := (1 : Int32)) rfl (pc' := 156) rfl ?_
  refine own_istore X1 hx hby d_prog_19_method_2_code_156  (Ls' := #[.val (.int p1), .val (.int (0 : Int32)), .val (.ref ta), .val (.ref hd), .val (.ref wt), .val (.ref b1), .val (.long (0 : Int64)), .second, .val (.int (1 : Int32)), .unset, .unset, .unset, .unset]) rfl (pc' := 158) rfl ?_
  have LP158 : ∀ (d : Nat) (T : State) (h : Heap) (locs : List Loc) (j : Int32), Stand p l e ({ frames := 2, cells := 5, slots := 39, locals := 60 } : Room) s m #[(.int p1), (.int (0 : Int32)), (.ref ta), (.ref hd), (.ref wt)] below meth c T locs 1 18 → T.heap = h → Fr n0 locs → Keep h1 h [b1] → IA Z h b1 (p1 + (2 : Int32)) → 1 ≤ j.toInt → j.toInt + d = p1.toInt + 1 → GoP p e below Φ (T.setTop (mkF m 158 #[.val (.int p1), .val (.int (0 : Int32)), .val (.ref ta), .val (.ref hd), .val (.ref wt), .val (.ref b1), .val (.long (0 : Int64)), .second, .val (.int j), .unset, .unset, .unset, .unset] [])) := by
    intro d
    induction d with
    | zero =>
      intro T h locs j X eT N KL IL g1 g2
      have I5_ta := I2_ta.keep KL (ninS ne_ta_b1 nin0)
      have I6_hd := I3_hd.keep KL (ninS ne_hd_b1 nin0)
      have V7_wt := V4_wt.keep KL (ninS ne_wt_b1 nin0)
      have KZ158 : Keep h0 h [] := K1.trans KL (allS (Or.inr sz_b1) all0)
      have ZZ158 : n0 ≤ h.size := Nat.le_trans Z1 KL.1
      refine own_iload X hx hby d_prog_19_method_2_code_158 rfl (pc' := 160) rfl ?_
      refine own_iloadN X hx hby d_prog_19_method_2_code_160 rfl (pc' := 161) rfl ?_
      refine own_icmpY X hx hby d_prog_19_method_2_code_161 (tlt (own_ltI (by omega))).2.2.1 (by decide) (pc' := 185) (by decide) ?_
      refine own_iloadN X hx hby d_prog_19_method_2_code_185 rfl (pc' := 186) rfl ?_
      refine own_iconst X hx hby d_prog_19_method_2_code_186 (v := (1 : Int32)) rfl (pc' := 187) rfl ?_
      refine own_iadd X hx hby d_prog_19_method_2_code_187 (pc' := 188) rfl ?_
      obtain ⟨T8, h8, k8, X8, e8, E8, A8, st8⟩ := newP X hx hZ (own_w hw 45 rfl) eT (g := (mkF m 188 #[.val (.int p1), .val (.int (0 : Int32)), .val (.ref ta), .val (.ref hd), .val (.ref wt), .val (.ref b1), .val (.long (0 : Int64)), .second, .val (.int j), .unset, .unset, .unset, .unset] [(.int (p1 + (1 : Int32)))])) rfl (hb hby d_prog_19_method_2_code_188) rfl (own_geI (by rw [own_z0]; omega)) (cap := 17) (own_clamp (by omega)) (by decide) (by decide) (by decide)
      obtain ⟨b8, g8⟩ : ∃ z, z = h.size := ⟨_, rfl⟩
      have ne_ta_b8 : ta ≠ b8 := Nat.ne_of_lt (g8 ▸ I5_ta.lt)
      have ne_hd_b8 : hd ≠ b8 := Nat.ne_of_lt (g8 ▸ I6_hd.lt)
      have ne_wt_b8 : wt ≠ b8 := Nat.ne_of_lt (g8 ▸ V7_wt.lt)
      have ne_b1_b8 : b1 ≠ b8 := Nat.ne_of_lt (g8 ▸ IL.lt)
      have I9_ta := I5_ta.ext E8
      have I10_hd := I6_hd.ext E8
      have V11_wt := V7_wt.ext E8
      have I12_b1 := IL.ext E8
      have Z8 : n0 ≤ h8.size := Nat.le_trans ZZ158 E8.1
      have n0_b8 : n0 ≤ b8 := g8 ▸ ZZ158
      have sz_b8 : h0.size ≤ b8 := g8 ▸ KZ158.1
      have K8 : Keep h0 h8 [] := KZ158.ext E8
      rw [← g8] at A8 st8
      refine own_step st8 ?_
      have I8 : IA Z h8 b8 (p1 + (1 : Int32)) := IA.new A8 (own_geI (by rw [own_z0]; omega))
      show GoP p e below Φ (T8.setTop (mkF m 190 #[.val (.int p1), .val (.int (0 : Int32)), .val (.ref ta), .val (.ref hd), .val (.ref wt), .val (.ref b1), .val (.long (0 : Int64)), .second, .val (.int j), .unset, .unset, .unset, .unset] [(.ref b8)]))
      refine own_astore X8 hx hby d_prog_19_method_2_code_190 rfl (Ls' := #[.val (.int p1), .val (.int (0 : Int32)), .val (.ref ta), .val (.ref hd), .val (.ref wt), .val (.ref b1), .val (.long (0 : Int64)), .second, .val (.ref b8), .unset, .unset, .unset, .unset]) rfl (pc' := 192) rfl ?_
      refine own_aload X8 hx hby d_prog_19_method_2_code_192 rfl rfl (pc' := 194) rfl ?_
      refine own_iconst X8 hx hby d_prog_19_method_2_code_194 (v := (0 : Int32)) rfl (pc' := 195) rfl ?_
      refine own_aload X8 hx hby d_prog_19_method_2_code_195 rfl rfl (pc' := 197) rfl ?_
      refine own_iconst X8 hx hby d_prog_19_method_2_code_197 (v := (0 : Int32)) rfl (pc' := 198) rfl ?_
      refine own_iloadN X8 hx hby d_prog_19_method_2_code_198 rfl (pc' := 199) rfl ?_
      refine own_iconst X8 hx hby d_prog_19_method_2_code_199 (v := (1 : Int32)) rfl (pc' := 200) rfl ?_
      refine own_iadd X8 hx hby d_prog_19_method_2_code_200 (pc' := 201) rfl ?_
      refine own_copyA X8 hx hby hZ (by exact hml) hown (own_w hw 51 rfl) (own_w hw 54 rfl) (own_w hw 52 rfl) (own_w hw 53 rfl) e8 I12_b1 I8 (by decide) (by decide) (own_geI (by rw [own_z0]; omega)) (by have q1 := own_nat (x := p1 + (1 : Int32)) (k := p1.toInt.toNat + 1) (by omega); have q2 := own_nat (x := p1 + (2 : Int32)) (k := p1.toInt.toNat + 2) (by omega); rw [q1, q2]; show 0 + _ ≤ _; omega) (by show 0 + _ ≤ _; omega) N n0_b8 (by decide) 0 (Nat.le_of_eq rfl) (by decide) d_prog_19_method_2_code_201 (pc' := 204) rfl ?_
      intro T13 h13 L13 X13 e13 Nn13 K13 I13
      have I14_ta := I9_ta.keep K13 (ninS ne_ta_b8 nin0)
      have I15_hd := I10_hd.keep K13 (ninS ne_hd_b8 nin0)
      have V16_wt := V11_wt.keep K13 (ninS ne_wt_b8 nin0)
      have I17_b1 := I12_b1.keep K13 (ninS ne_b1_b8 nin0)
      have KC13 : Keep h0 h13 [] := K8.trans K13 (allS (Or.inr sz_b8) all0)
      have ZC13 : n0 ≤ h13.size := Nat.le_trans Z8 K13.1
      refine own_iloadN X13 hx hby d_prog_19_method_2_code_204 rfl (pc' := 205) rfl ?_
      obtain ⟨T18, h18, k18, X18, e18, E18, A18, st18⟩ := newP X13 hx hZ (own_w hw 45 rfl) e13 (g := (mkF m 205 #[.val (.int p1), .val (.int (0 : Int32)), .val (.ref ta), .val (.ref hd), .val (.ref wt), .val (.ref b1), .val (.long (0 : Int64)), .second, .val (.ref b8), .unset, .unset, .unset, .unset] [(.int (0 : Int32))])) rfl (hb hby d_prog_19_method_2_code_205) rfl (by decide) (cap := 0) (by decide) (by decide) (by decide) (by decide)
      obtain ⟨b18, g18⟩ : ∃ z, z = h13.size := ⟨_, rfl⟩
      have ne_ta_b18 : ta ≠ b18 := Nat.ne_of_lt (g18 ▸ I14_ta.lt)
      have ne_hd_b18 : hd ≠ b18 := Nat.ne_of_lt (g18 ▸ I15_hd.lt)
      have ne_wt_b18 : wt ≠ b18 := Nat.ne_of_lt (g18 ▸ V16_wt.lt)
      have ne_b1_b18 : b1 ≠ b18 := Nat.ne_of_lt (g18 ▸ I17_b1.lt)
      have ne_b8_b18 : b8 ≠ b18 := Nat.ne_of_lt (g18 ▸ I13.lt)
      have I19_ta := I14_ta.ext E18
      have I20_hd := I15_hd.ext E18
      have V21_wt := V16_wt.ext E18
      have I22_b1 := I17_b1.ext E18
      have I23_b8 := I13.ext E18
      have Z18 : n0 ≤ h18.size := Nat.le_trans ZC13 E18.1
      have n0_b18 : n0 ≤ b18 := g18 ▸ ZC13
      have sz_b18 : h0.size ≤ b18 := g18 ▸ KC13.1
      have K18 : Keep h0 h18 [] := KC13.ext E18
      rw [← g18] at A18 st18
      refine own_step st18 ?_
      have I18 : IA Z h18 b18 (0 : Int32) := IA.new A18 (by decide)
      show GoP p e below Φ (T18.setTop (mkF m 207 #[.val (.int p1), .val (.int (0 : Int32)), .val (.ref ta), .val (.ref hd), .val (.ref wt), .val (.ref b1), .val (.long (0 : Int64)), .second, .val (.ref b8), .unset, .unset, .unset, .unset] [(.ref b18)]))
      refine own_astore X18 hx hby d_prog_19_method_2_code_207 rfl (Ls' := #[.val (.int p1), .val (.int (0 : Int32)), .val (.ref ta), .val (.ref hd), .val (.ref wt), .val (.ref b1), .val (.long (0 : Int64)), .second, .val (.ref b8), .val (.ref b18), .unset, .unset, .unset]) rfl (pc' := 209) rfl ?_
      refine own_iloadN X18 hx hby d_prog_19_method_2_code_209 rfl (pc' := 210) rfl ?_
      obtain ⟨T24, h24, k24, X24, e24, E24, A24, st24⟩ := newP X18 hx hZ (own_w hw 46 rfl) e18 (g := (mkF m 210 #[.val (.int p1), .val (.int (0 : Int32)), .val (.ref ta), .val (.ref hd), .val (.ref wt), .val (.ref b1), .val (.long (0 : Int64)), .second, .val (.ref b8), .val (.ref b18), .unset, .unset, .unset] [(.int (0 : Int32))])) rfl (hb hby d_prog_19_method_2_code_210) rfl (by decide) (cap := 0) (by decide) (by decide) (by decide) (by decide)
      obtain ⟨b24, g24⟩ : ∃ z, z = h18.size := ⟨_, rfl⟩
      have ne_ta_b24 : ta ≠ b24 := Nat.ne_of_lt (g24 ▸ I19_ta.lt)
      have ne_hd_b24 : hd ≠ b24 := Nat.ne_of_lt (g24 ▸ I20_hd.lt)
      have ne_wt_b24 : wt ≠ b24 := Nat.ne_of_lt (g24 ▸ V21_wt.lt)
      have ne_b1_b24 : b1 ≠ b24 := Nat.ne_of_lt (g24 ▸ I22_b1.lt)
      have ne_b8_b24 : b8 ≠ b24 := Nat.ne_of_lt (g24 ▸ I23_b8.lt)
      have ne_b18_b24 : b18 ≠ b24 := Nat.ne_of_lt (g24 ▸ I18.lt)
      have I25_ta := I19_ta.ext E24
      have I26_hd := I20_hd.ext E24
      have V27_wt := V21_wt.ext E24
      have I28_b1 := I22_b1.ext E24
      have I29_b8 := I23_b8.ext E24
      have I30_b18 := I18.ext E24
      have Z24 : n0 ≤ h24.size := Nat.le_trans Z18 E24.1
      have n0_b24 : n0 ≤ b24 := g24 ▸ Z18
      have sz_b24 : h0.size ≤ b24 := g24 ▸ K18.1
      have K24 : Keep h0 h24 [] := K18.ext E24
      rw [← g24] at A24 st24
      refine own_step st24 ?_
      have V24 : AV Z h24 b24 .long [] := AV.new A24 (by decide)
      show GoP p e below Φ (T24.setTop (mkF m 212 #[.val (.int p1), .val (.int (0 : Int32)), .val (.ref ta), .val (.ref hd), .val (.ref wt), .val (.ref b1), .val (.long (0 : Int64)), .second, .val (.ref b8), .val (.ref b18), .unset, .unset, .unset] [(.ref b24)]))
      refine own_astore X24 hx hby d_prog_19_method_2_code_212 rfl (Ls' := #[.val (.int p1), .val (.int (0 : Int32)), .val (.ref ta), .val (.ref hd), .val (.ref wt), .val (.ref b1), .val (.long (0 : Int64)), .second, .val (.ref b8), .val (.ref b18), .val (.ref b24), .unset, .unset]) rfl (pc' := 214) rfl ?_
      refine own_iconst X24 hx hby d_prog_19_method_2_code_214 (v := (0 : Int32)) rfl (pc' := 215) rfl ?_
      refine own_istore X24 hx hby d_prog_19_method_2_code_215  (Ls' := #[.val (.int p1), .val (.int (0 : Int32)), .val (.ref ta), .val (.ref hd), .val (.ref wt), .val (.ref b1), .val (.long (0 : Int64)), .second, .val (.ref b8), .val (.ref b18), .val (.ref b24), .val (.int (0 : Int32)), .unset]) rfl (pc' := 217) rfl ?_
      refine own_iload X24 hx hby d_prog_19_method_2_code_217 rfl (pc' := 219) rfl ?_
      refine own_iloadN X24 hx hby d_prog_19_method_2_code_219 rfl (pc' := 220) rfl ?_
      refine own_icmpY X24 hx hby d_prog_19_method_2_code_220 (flt (by decide)).2.1 (by decide) (pc' := 262) (by decide) ?_
      obtain ⟨T31, h31, X31, e31, E31, A31, D31, -, st31⟩ := newO X24 hx hZ hown (own_w hw 55 rfl) (own_w hw 56 rfl) (own_w hw 49 rfl) e24 (g := (mkF m 262 #[.val (.int p1), .val (.int (0 : Int32)), .val (.ref ta), .val (.ref hd), .val (.ref wt), .val (.ref b1), .val (.long (0 : Int64)), .second, .val (.ref b8), .val (.ref b18), .val (.ref b24), .val (.int (0 : Int32)), .unset] [])) rfl (hb hby d_prog_19_method_2_code_262) (by decide) (by decide)
      obtain ⟨b31, g31⟩ : ∃ z, z = h24.size := ⟨_, rfl⟩
      have ne_ta_b31 : ta ≠ b31 := Nat.ne_of_lt (g31 ▸ I25_ta.lt)
      have ne_hd_b31 : hd ≠ b31 := Nat.ne_of_lt (g31 ▸ I26_hd.lt)
      have ne_wt_b31 : wt ≠ b31 := Nat.ne_of_lt (g31 ▸ V27_wt.lt)
      have ne_b1_b31 : b1 ≠ b31 := Nat.ne_of_lt (g31 ▸ I28_b1.lt)
      have ne_b8_b31 : b8 ≠ b31 := Nat.ne_of_lt (g31 ▸ I29_b8.lt)
      have ne_b18_b31 : b18 ≠ b31 := Nat.ne_of_lt (g31 ▸ I30_b18.lt)
      have ne_b24_b31 : b24 ≠ b31 := Nat.ne_of_lt (g31 ▸ V24.lt)
      have I32_ta := I25_ta.ext E31
      have I33_hd := I26_hd.ext E31
      have V34_wt := V27_wt.ext E31
      have I35_b1 := I28_b1.ext E31
      have I36_b8 := I29_b8.ext E31
      have I37_b18 := I30_b18.ext E31
      have V38_b24 := V24.ext E31
      have Z31 : n0 ≤ h31.size := Nat.le_trans Z24 E31.1
      have n0_b31 : n0 ≤ b31 := g31 ▸ Z24
      have sz_b31 : h0.size ≤ b31 := g31 ▸ K24.1
      have K31 : Keep h0 h31 [] := K24.ext E31
      rw [← g31] at A31 D31 st31
      refine own_step st31 ?_
      have F31_nodeCount : Fld Z h31 b31 "com/example/wayfold/wayfold/Graph" "nodeCount" "I" (.int (0 : Int32)) := D31 (Or.inr (own_w hw 62 rfl)) (ty := .int) (by decide)
      have F31_firstArc : Fld Z h31 b31 "com/example/wayfold/wayfold/Graph" "firstArc" "[I" .null := D31 (Or.inr (own_w hw 64 rfl)) (ty := (.array .int)) (by decide)
      have F31_arcHead : Fld Z h31 b31 "com/example/wayfold/wayfold/Graph" "arcHead" "[I" .null := D31 (Or.inr (own_w hw 66 rfl)) (ty := (.array .int)) (by decide)
      have F31_arcWeight : Fld Z h31 b31 "com/example/wayfold/wayfold/Graph" "arcWeight" "[J" .null := D31 (Or.inr (own_w hw 68 rfl)) (ty := (.array .long)) (by decide)
      show GoP p e below Φ (T31.setTop (mkF m 265 #[.val (.int p1), .val (.int (0 : Int32)), .val (.ref ta), .val (.ref hd), .val (.ref wt), .val (.ref b1), .val (.long (0 : Int64)), .second, .val (.ref b8), .val (.ref b18), .val (.ref b24), .val (.int (0 : Int32)), .unset] [(.ref b31)]))
      refine own_dup X31 hx hby d_prog_19_method_2_code_265 rfl (pc' := 266) rfl ?_
      refine own_iloadN X31 hx hby d_prog_19_method_2_code_266 rfl (pc' := 267) rfl ?_
      refine own_aload X31 hx hby d_prog_19_method_2_code_267 rfl rfl (pc' := 269) rfl ?_
      refine own_aload X31 hx hby d_prog_19_method_2_code_269 rfl rfl (pc' := 271) rfl ?_
      refine own_aload X31 hx hby d_prog_19_method_2_code_271 rfl rfl (pc' := 273) rfl ?_
      refine own_callI X31 hx hby hZ (by exact hml) hown rfl (own_w hw 57 rfl) (own_w hw 58 rfl) (own_w hw 49 rfl) (own_w hw 59 rfl) (by decide) e31 1 (by decide) (by decide) (by decide) (by decide) (argsL := [(.int p1), (.ref b1), (.ref b18), (.ref b24)]) (rest := [(.ref b31)]) (lenOf pd__I_I_I_J_V rfl) rfl (Nat.le_of_eq rfl) (rmGI l Z a0 hw b31 p1 b1 b18 b24 n0 h31 n0_b31 A31 F31_nodeCount F31_firstArc F31_arcHead F31_arcWeight) d_prog_19_method_2_code_273 (pc' := 276) rfl ?_
      intro v39 T39 L39 X39 hQ39
      obtain ⟨rfl, Nq39, K39, E39, FA39⟩ := hQ39
      have I40_ta := I32_ta.keep K39 (ninS ne_ta_b31 nin0)
      have I41_hd := I33_hd.keep K39 (ninS ne_hd_b31 nin0)
      have V42_wt := V34_wt.keep K39 (ninS ne_wt_b31 nin0)
      have I43_b1 := I35_b1.keep K39 (ninS ne_b1_b31 nin0)
      have I44_b8 := I36_b8.keep K39 (ninS ne_b8_b31 nin0)
      have I45_b18 := I37_b18.keep K39 (ninS ne_b18_b31 nin0)
      have V46_b24 := V38_b24.keep K39 (ninS ne_b24_b31 nin0)
      have N39 := Fr.app Nn13 Nq39
      have Z39 : n0 ≤ T39.heap.size := Nat.le_trans Z31 K39.1
      have KK39 : Keep h0 T39.heap [] := K31.trans K39 (allS (Or.inr sz_b31) all0)
      show GoP p e below Φ (T39.setTop (mkF m 276 #[.val (.int p1), .val (.int (0 : Int32)), .val (.ref ta), .val (.ref hd), .val (.ref wt), .val (.ref b1), .val (.long (0 : Int64)), .second, .val (.ref b8), .val (.ref b18), .val (.ref b24), .val (.int (0 : Int32)), .unset] [(.ref b31)]))
      exact own_retA X39 hx hby fin hret rfl rfl rfl d_prog_19_method_2_code_276 (by decide) (by decide) (by exact ⟨b31, b1, rfl, N39, KK39, sz_b31, sz_b1, E39, FA39, I43_b1⟩)
    | succ d ih =>
      intro T h locs j X eT N KL IL g1 g2
      have I50_ta := I2_ta.keep KL (ninS ne_ta_b1 nin0)
      have I51_hd := I3_hd.keep KL (ninS ne_hd_b1 nin0)
      have V52_wt := V4_wt.keep KL (ninS ne_wt_b1 nin0)
      have q1 := own_j1 g1 (by omega) hn2
      refine own_iload X hx hby d_prog_19_method_2_code_158 rfl (pc' := 160) rfl ?_
      refine own_iloadN X hx hby d_prog_19_method_2_code_160 rfl (pc' := 161) rfl ?_
      refine own_icmpN X hx hby d_prog_19_method_2_code_161 (flt (own_geI (by omega))).2.2.1 (pc' := 164) rfl ?_
      refine own_aload X hx hby d_prog_19_method_2_code_164 rfl rfl (pc' := 166) rfl ?_
      refine own_iload X hx hby d_prog_19_method_2_code_166 rfl (pc' := 168) rfl ?_
      refine own_iconst X hx hby d_prog_19_method_2_code_168 (v := (1 : Int32)) rfl (pc' := 169) rfl ?_
      refine own_iadd X hx hby d_prog_19_method_2_code_169 (pc' := 170) rfl ?_
      refine own_dup2 X hx hby d_prog_19_method_2_code_170 rfl rfl (pc' := 171) rfl ?_
      refine own_ialoadA X hx hby hZ eT IL ⟨own_geI (by rw [own_z0]; omega), own_ltI (by omega)⟩ d_prog_19_method_2_code_171 (pc' := 172) rfl ?_
      intro w53
      refine own_aload X hx hby d_prog_19_method_2_code_172 rfl rfl (pc' := 174) rfl ?_
      refine own_iload X hx hby d_prog_19_method_2_code_174 rfl (pc' := 176) rfl ?_
      refine own_ialoadA X hx hby hZ eT IL ⟨own_geI (by rw [own_z0]; omega), own_ltI (by omega)⟩ d_prog_19_method_2_code_176 (pc' := 177) rfl ?_
      intro w54
      refine own_iadd X hx hby d_prog_19_method_2_code_177 (pc' := 178) rfl ?_
      refine own_iastoreA X hx hby hZ eT IL ⟨own_geI (by rw [own_z0]; omega), own_ltI (by omega)⟩ d_prog_19_method_2_code_178 (pc' := 179) rfl ?_
      intro T55 h55 X55 e55 W55 I55
      have I56_ta := I50_ta.other W55 ne_ta_b1
      have I57_hd := I51_hd.other W55 ne_hd_b1
      have V58_wt := V52_wt.other W55 ne_wt_b1
      have N55 := Fr.snoc X55 N n0_b1
      have KL55 := KL.wr W55 (Or.inl (List.mem_of_getElem? (i := 0) rfl))
      refine own_iinc X55 hx hby d_prog_19_method_2_code_179 rfl (v := (1 : Int32)) rfl (Ls' := #[.val (.int p1), .val (.int (0 : Int32)), .val (.ref ta), .val (.ref hd), .val (.ref wt), .val (.ref b1), .val (.long (0 : Int64)), .second, .val (.int (j + (1 : Int32))), .unset, .unset, .unset, .unset]) rfl (pc' := 182) rfl ?_
      refine own_goto X55 hx hby d_prog_19_method_2_code_182 (by decide) (pc' := 158) (by decide) ?_
      exact ih T55 h55 _ (j + (1 : Int32)) X55 e55 N55 KL55 I55 (by omega) (by omega)
  exact LP158 p1.toInt.toNat T1 h1 _ (1 : Int32) X1 e1 N0 (Keep.refl _ _) I1 (by decide) (by rw [own_z1]; omega)
theorem ef_rmT (m : MethodId) (x0 : Addr) (x1 : Int32) (x2 : Int32) (x3 : Int32) (x4 : Addr) : entryFrame m #[(.ref x0), (.int x1), (.int x2), (.int x3), (.ref x4)] 12 = mkF m 0 #[.val (.ref x0), .val (.int x1), .val (.int x2), .val (.int x3), .val (.ref x4), .unset, .unset, .unset, .unset, .unset, .unset, .unset] [] := by first | (simp [entryFrame, mkF, argsToLocals, Value.category]; done) | rfl
theorem d_prog_57_method_1_code_0 : decode prog_57_method_1_code 0 = .ok (.aload_n 0, 1) := by decide +kernel
theorem d_prog_57_method_1_code_1 : decode prog_57_method_1_code 1 = .ok (.invokespecial 1, 3) := by decide +kernel
theorem d_prog_57_method_1_code_4 : decode prog_57_method_1_code 4 = .ok (.iload_n 2, 1) := by decide +kernel
theorem d_prog_57_method_1_code_5 : decode prog_57_method_1_code 5 = .ok (.ifCond .lt 12, 3) := by decide +kernel
theorem d_prog_57_method_1_code_8 : decode prog_57_method_1_code 8 = .ok (.iload_n 2, 1) := by decide +kernel
theorem d_prog_57_method_1_code_9 : decode prog_57_method_1_code 9 = .ok (.iload_n 1, 1) := by decide +kernel
theorem d_prog_57_method_1_code_10 : decode prog_57_method_1_code 10 = .ok (.if_icmp .gt 7, 3) := by decide +kernel
theorem d_prog_57_method_1_code_13 : decode prog_57_method_1_code 13 = .ok (.iload_n 3, 1) := by decide +kernel
theorem d_prog_57_method_1_code_14 : decode prog_57_method_1_code 14 = .ok (.ifCond .ge 18, 3) := by decide +kernel
theorem d_prog_57_method_1_code_32 : decode prog_57_method_1_code 32 = .ok (.aload 4, 2) := by decide +kernel
theorem d_prog_57_method_1_code_34 : decode prog_57_method_1_code 34 = .ok (.invokeinterface 16 1, 5) := by decide +kernel
theorem pd___I : parseMethodDescriptor "()I" = some ⟨[], some .int⟩ := by decide +kernel
theorem d_prog_57_method_1_code_39 : decode prog_57_method_1_code 39 = .ok (.istore 5, 2) := by decide +kernel
theorem d_prog_57_method_1_code_41 : decode prog_57_method_1_code 41 = .ok (.iload 5, 2) := by decide +kernel
theorem d_prog_57_method_1_code_43 : decode prog_57_method_1_code 43 = .ok (.newarray .int, 2) := by decide +kernel
theorem d_prog_57_method_1_code_45 : decode prog_57_method_1_code 45 = .ok (.astore 6, 2) := by decide +kernel
theorem d_prog_57_method_1_code_47 : decode prog_57_method_1_code 47 = .ok (.iload 5, 2) := by decide +kernel
theorem d_prog_57_method_1_code_49 : decode prog_57_method_1_code 49 = .ok (.newarray .int, 2) := by decide +kernel
theorem d_prog_57_method_1_code_51 : decode prog_57_method_1_code 51 = .ok (.astore 7, 2) := by decide +kernel
theorem d_prog_57_method_1_code_53 : decode prog_57_method_1_code 53 = .ok (.iconst 0, 1) := by decide +kernel
theorem d_prog_57_method_1_code_54 : decode prog_57_method_1_code 54 = .ok (.istore 8, 2) := by decide +kernel
theorem d_prog_57_method_1_code_56 : decode prog_57_method_1_code 56 = .ok (.iload 8, 2) := by decide +kernel
theorem d_prog_57_method_1_code_58 : decode prog_57_method_1_code 58 = .ok (.iload 5, 2) := by decide +kernel
theorem d_prog_57_method_1_code_60 : decode prog_57_method_1_code 60 = .ok (.if_icmp .ge 113, 3) := by decide +kernel
theorem d_prog_57_method_1_code_173 : decode prog_57_method_1_code 173 = .ok (.aload_n 0, 1) := by decide +kernel
theorem d_prog_57_method_1_code_174 : decode prog_57_method_1_code 174 = .ok (.iload_n 1, 1) := by decide +kernel
theorem d_prog_57_method_1_code_175 : decode prog_57_method_1_code 175 = .ok (.iload 5, 2) := by decide +kernel
theorem d_prog_57_method_1_code_177 : decode prog_57_method_1_code 177 = .ok (.aload 6, 2) := by decide +kernel
theorem d_prog_57_method_1_code_179 : decode prog_57_method_1_code 179 = .ok (.aload 7, 2) := by decide +kernel
theorem d_prog_57_method_1_code_181 : decode prog_57_method_1_code 181 = .ok (.iload 5, 2) := by decide +kernel
theorem d_prog_57_method_1_code_183 : decode prog_57_method_1_code 183 = .ok (.newarray .long, 2) := by decide +kernel
theorem d_prog_57_method_1_code_185 : decode prog_57_method_1_code 185 = .ok (.invokestatic 56, 3) := by decide +kernel
theorem pd__II_I_I_J_Lcom_example_wayfold_wayfold_Graph_ : parseMethodDescriptor "(II[I[I[J)Lcom/example/wayfold/wayfold/Graph;" = some ⟨[.int, .int, (.array .int), (.array .int), (.array .long)], some (.object "com/example/wayfold/wayfold/Graph")⟩ := by decide +kernel
theorem d_prog_57_method_1_code_188 : decode prog_57_method_1_code 188 = .ok (.putfield 62, 3) := by decide +kernel
theorem d_prog_57_method_1_code_191 : decode prog_57_method_1_code 191 = .ok (.aload_n 0, 1) := by decide +kernel
theorem d_prog_57_method_1_code_192 : decode prog_57_method_1_code 192 = .ok (.iload_n 2, 1) := by decide +kernel
theorem d_prog_57_method_1_code_193 : decode prog_57_method_1_code 193 = .ok (.putfield 68, 3) := by decide +kernel
theorem d_prog_57_method_1_code_196 : decode prog_57_method_1_code 196 = .ok (.aload_n 0, 1) := by decide +kernel
theorem d_prog_57_method_1_code_197 : decode prog_57_method_1_code 197 = .ok (.iload_n 3, 1) := by decide +kernel
theorem d_prog_57_method_1_code_198 : decode prog_57_method_1_code 198 = .ok (.putfield 72, 3) := by decide +kernel
theorem d_prog_57_method_1_code_201 : decode prog_57_method_1_code 201 = .ok (.aload_n 0, 1) := by decide +kernel
theorem d_prog_57_method_1_code_202 : decode prog_57_method_1_code 202 = .ok (.aload 6, 2) := by decide +kernel
theorem d_prog_57_method_1_code_204 : decode prog_57_method_1_code 204 = .ok (.putfield 75, 3) := by decide +kernel
theorem d_prog_57_method_1_code_207 : decode prog_57_method_1_code 207 = .ok (.aload_n 0, 1) := by decide +kernel
theorem d_prog_57_method_1_code_208 : decode prog_57_method_1_code 208 = .ok (.iload 5, 2) := by decide +kernel
theorem d_prog_57_method_1_code_210 : decode prog_57_method_1_code 210 = .ok (.newarray .int, 2) := by decide +kernel
theorem d_prog_57_method_1_code_212 : decode prog_57_method_1_code 212 = .ok (.putfield 79, 3) := by decide +kernel
theorem d_prog_57_method_1_code_215 : decode prog_57_method_1_code 215 = .ok (.iload_n 1, 1) := by decide +kernel
theorem d_prog_57_method_1_code_216 : decode prog_57_method_1_code 216 = .ok (.iconst 1, 1) := by decide +kernel
theorem d_prog_57_method_1_code_217 : decode prog_57_method_1_code 217 = .ok (.iadd, 1) := by decide +kernel
theorem d_prog_57_method_1_code_218 : decode prog_57_method_1_code 218 = .ok (.newarray .int, 2) := by decide +kernel
theorem d_prog_57_method_1_code_220 : decode prog_57_method_1_code 220 = .ok (.astore 8, 2) := by decide +kernel
theorem d_prog_57_method_1_code_222 : decode prog_57_method_1_code 222 = .ok (.iconst 1, 1) := by decide +kernel
theorem d_prog_57_method_1_code_223 : decode prog_57_method_1_code 223 = .ok (.istore 9, 2) := by decide +kernel
theorem d_prog_57_method_1_code_225 : decode prog_57_method_1_code 225 = .ok (.iload 9, 2) := by decide +kernel
theorem d_prog_57_method_1_code_227 : decode prog_57_method_1_code 227 = .ok (.iload_n 1, 1) := by decide +kernel
theorem d_prog_57_method_1_code_228 : decode prog_57_method_1_code 228 = .ok (.if_icmp .gt 23, 3) := by decide +kernel
theorem d_prog_57_method_1_code_251 : decode prog_57_method_1_code 251 = .ok (.aload_n 0, 1) := by decide +kernel
theorem d_prog_57_method_1_code_252 : decode prog_57_method_1_code 252 = .ok (.iload 5, 2) := by decide +kernel
theorem d_prog_57_method_1_code_254 : decode prog_57_method_1_code 254 = .ok (.newarray .double, 2) := by decide +kernel
theorem d_prog_57_method_1_code_256 : decode prog_57_method_1_code 256 = .ok (.putfield 86, 3) := by decide +kernel
theorem d_prog_57_method_1_code_259 : decode prog_57_method_1_code 259 = .ok (.aload_n 0, 1) := by decide +kernel
theorem d_prog_57_method_1_code_260 : decode prog_57_method_1_code 260 = .ok (.iload 5, 2) := by decide +kernel
theorem d_prog_57_method_1_code_262 : decode prog_57_method_1_code 262 = .ok (.newarray .double, 2) := by decide +kernel
theorem d_prog_57_method_1_code_264 : decode prog_57_method_1_code 264 = .ok (.putfield 89, 3) := by decide +kernel
theorem d_prog_57_method_1_code_267 : decode prog_57_method_1_code 267 = .ok (.aload_n 0, 1) := by decide +kernel
theorem d_prog_57_method_1_code_268 : decode prog_57_method_1_code 268 = .ok (.iload 5, 2) := by decide +kernel
theorem d_prog_57_method_1_code_270 : decode prog_57_method_1_code 270 = .ok (.newarray .double, 2) := by decide +kernel
theorem d_prog_57_method_1_code_272 : decode prog_57_method_1_code 272 = .ok (.putfield 91, 3) := by decide +kernel
theorem d_prog_57_method_1_code_275 : decode prog_57_method_1_code 275 = .ok (.aload_n 0, 1) := by decide +kernel
theorem d_prog_57_method_1_code_276 : decode prog_57_method_1_code 276 = .ok (.iload 5, 2) := by decide +kernel
theorem d_prog_57_method_1_code_278 : decode prog_57_method_1_code 278 = .ok (.newarray .double, 2) := by decide +kernel
theorem d_prog_57_method_1_code_280 : decode prog_57_method_1_code 280 = .ok (.putfield 93, 3) := by decide +kernel
theorem d_prog_57_method_1_code_283 : decode prog_57_method_1_code 283 = .ok (.iconst 0, 1) := by decide +kernel
theorem d_prog_57_method_1_code_284 : decode prog_57_method_1_code 284 = .ok (.istore 9, 2) := by decide +kernel
theorem d_prog_57_method_1_code_286 : decode prog_57_method_1_code 286 = .ok (.iload 9, 2) := by decide +kernel
theorem d_prog_57_method_1_code_288 : decode prog_57_method_1_code 288 = .ok (.iload 5, 2) := by decide +kernel
theorem d_prog_57_method_1_code_290 : decode prog_57_method_1_code 290 = .ok (.if_icmp .ge 95, 3) := by decide +kernel
theorem d_prog_57_method_1_code_385 : decode prog_57_method_1_code 385 = .ok (.return_, 1) := by decide +kernel
theorem d_prog_57_method_1_code_231 : decode prog_57_method_1_code 231 = .ok (.aload 8, 2) := by decide +kernel
theorem d_prog_57_method_1_code_233 : decode prog_57_method_1_code 233 = .ok (.iload 9, 2) := by decide +kernel
theorem d_prog_57_method_1_code_235 : decode prog_57_method_1_code 235 = .ok (.aload_n 0, 1) := by decide +kernel
theorem d_prog_57_method_1_code_236 : decode prog_57_method_1_code 236 = .ok (.getfield 62, 3) := by decide +kernel
theorem d_prog_57_method_1_code_239 : decode prog_57_method_1_code 239 = .ok (.iload 9, 2) := by decide +kernel
theorem d_prog_57_method_1_code_241 : decode prog_57_method_1_code 241 = .ok (.invokevirtual 82, 3) := by decide +kernel
theorem pd__I_I : parseMethodDescriptor "(I)I" = some ⟨[.int], some .int⟩ := by decide +kernel
theorem d_prog_57_method_1_code_244 : decode prog_57_method_1_code 244 = .ok (.iastore, 1) := by decide +kernel
theorem d_prog_57_method_1_code_245 : decode prog_57_method_1_code 245 = .ok (.iinc 9 1, 3) := by decide +kernel
theorem d_prog_57_method_1_code_248 : decode prog_57_method_1_code 248 = .ok (.goto (-23), 3) := by decide +kernel
set_option maxRecDepth 65536 in
set_option maxHeartbeats 40000000 in
theorem rmT (l : Launch) (Z : State) (a0 : Array Value) (hw : ∀ d ∈ tables_1, d.before a0 Z = true) (a : Addr) (p1 p2 p3 : Int32) (li : Addr) (n0 : Nat) (h0 : Heap) (n0_a : n0 ≤ a) (Z0 : n0 ≤ h0.size) (hn1 : 1 ≤ p1.toInt) (hn2 : p1.toInt ≤ 16) (hz : ¬ p2 < (0 : Int32)) (hz2 : ¬ p1 < p2) (hf : ¬ p3 < (0 : Int32)) (ne_a_li : a ≠ li) (E : Exa Z h0 a "com/example/wayfold/wayfold/TrafficNetwork") (El : Exa Z h0 li "java/util/ArrayList") (Fs : Fld Z h0 li "java/util/ArrayList" "size" "I" (.int (0 : Int32))) (F_graph : Fld Z h0 a "com/example/wayfold/wayfold/TrafficNetwork" "graph" "Lcom/example/wayfold/wayfold/Graph;" .null) (F_zoneCount : Fld Z h0 a "com/example/wayfold/wayfold/TrafficNetwork" "zoneCount" "I" (.int (0 : Int32))) (F_firstThruNode : Fld Z h0 a "com/example/wayfold/wayfold/TrafficNetwork" "firstThruNode" "I" (.int (0 : Int32))) (F_linkTail : Fld Z h0 a "com/example/wayfold/wayfold/TrafficNetwork" "linkTail" "[I" .null) (F_linkArc : Fld Z h0 a "com/example/wayfold/wayfold/TrafficNetwork" "linkArc" "[I" .null) (F_capacity : Fld Z h0 a "com/example/wayfold/wayfold/TrafficNetwork" "capacity" "[D" .null) (F_freeFlowTime : Fld Z h0 a "com/example/wayfold/wayfold/TrafficNetwork" "freeFlowTime" "[D" .null) (F_b : Fld Z h0 a "com/example/wayfold/wayfold/TrafficNetwork" "b" "[D" .null) (F_power : Fld Z h0 a "com/example/wayfold/wayfold/TrafficNetwork" "power" "[D" .null) : Con l Z (⟨"com/example/wayfold/wayfold/TrafficNetwork", "<init>", "(IIILjava/util/List;)V"⟩ : MethodName) prog_57_method_1_code 12 none [] ({ frames := 3, cells := 14, slots := 60, locals := 100 } : Room) #[(.ref a), (.int p1), (.int p2), (.int p3), (.ref li)] h0 (fun v h L => v = none ∧ Fr n0 L ∧ Keep h0 h [a] ∧ Exa Z h a "com/example/wayfold/wayfold/TrafficNetwork" ∧ Fld Z h a "com/example/wayfold/wayfold/TrafficNetwork" "firstThruNode" "I" (.int p3)) := by
  refine Con.of (plainFor_of_name pn_com_example_wayfold_wayfold_TrafficNetwork) ?_
  intro p e s m below meth c T X hx hby hml hown hnm hret eT hZ hsh Φ fin
  replace hown : s.vm.findClass "com/example/wayfold/wayfold/TrafficNetwork" = some m.cls := hown
  replace hml : 12 = c.maxLocals := hml.symm
  refine own_step (fun t k => castTop (ef_rmT m a p1 p2 p3 li) k) ?_
  have N0 := Fr.nil n0
  have K0 : Keep h0 h0 [a] := Keep.refl h0 [a]
  have e1 := own_n1 hn1 hn2
  have e2 := own_n2 hn1 hn2
  refine own_aloadN X hx hby d_prog_57_method_1_code_0 rfl rfl (pc' := 1) rfl ?_
  obtain ⟨T1, X1, e1, st1⟩ := initO X hx hZ hown (own_w hw 33 rfl) (own_w hw 23 rfl) (own_w hw 24 rfl) eT (g := (mkF m 1 #[.val (.ref a), .val (.int p1), .val (.int p2), .val (.int p3), .val (.ref li), .unset, .unset, .unset, .unset, .unset, .unset, .unset] [(.ref a)])) rfl hml rfl (hb hby d_prog_57_method_1_code_1) (by decide) (W := 0) (by show 2 * 0 + _ ≤ _; exact Nat.le_of_eq rfl) (by decide)
  refine own_step st1 ?_
  show GoP p e below Φ (T1.setTop (mkF m 4 #[.val (.ref a), .val (.int p1), .val (.int p2), .val (.int p3), .val (.ref li), .unset, .unset, .unset, .unset, .unset, .unset, .unset] []))
  refine own_iloadN X1 hx hby d_prog_57_method_1_code_4 rfl (pc' := 5) rfl ?_
  refine own_ifN X1 hx hby d_prog_57_method_1_code_5 ((if0 _ _).trans (flt hz).1) (pc' := 8) rfl ?_
  refine own_iloadN X1 hx hby d_prog_57_method_1_code_8 rfl (pc' := 9) rfl ?_
  refine own_iloadN X1 hx hby d_prog_57_method_1_code_9 rfl (pc' := 10) rfl ?_
  refine own_icmpN X1 hx hby d_prog_57_method_1_code_10 (flt hz2).2.2.1 (pc' := 13) rfl ?_
  refine own_iloadN X1 hx hby d_prog_57_method_1_code_13 rfl (pc' := 14) rfl ?_
  refine own_ifY X1 hx hby d_prog_57_method_1_code_14 ((if0 _ _).trans (flt hf).2.1) (by decide) (pc' := 32) (by decide) ?_
  refine own_aload X1 hx hby d_prog_57_method_1_code_32 rfl rfl (pc' := 34) rfl ?_
  refine own_callF X1 hx hby hZ (by exact hml) hown (x0 := (⟨"java/util/List", "size", "()I"⟩ : MethodName)) (y := (⟨"java/util/ArrayList", "size", "()I"⟩ : MethodName)) (own_w hw 34 rfl) (own_w hw 35 rfl) (own_w hw 36 rfl) (own_w hw 37 rfl) (own_w hw 38 rfl) (own_w hw 39 rfl) (own_w hw 40 rfl) (own_w hw 41 rfl) (own_w hw 6 rfl) rfl (own_w hw 42 rfl) (by decide) e1 0 (by decide) (by decide) (by decide) (by decide) (argsL := []) (rest := []) (lenOf pd___I rfl) rfl (Nat.le_of_eq rfl) El (rmSZ l Z a0 hw li h0 Fs) d_prog_57_method_1_code_34 (pc' := 39) rfl ?_
  intro v2 T2 L2 X2 hQ2
  obtain ⟨rfl, rfl, e2⟩ := hQ2
  rw [List.append_nil] at X2
  replace e2 : T2.heap = h0 := e2
  show GoP p e below Φ (T2.setTop (mkF m 39 #[.val (.ref a), .val (.int p1), .val (.int p2), .val (.int p3), .val (.ref li), .unset, .unset, .unset, .unset, .unset, .unset, .unset] [(.int (0 : Int32))]))
  refine own_istore X2 hx hby d_prog_57_method_1_code_39  (Ls' := #[.val (.ref a), .val (.int p1), .val (.int p2), .val (.int p3), .val (.ref li), .val (.int (0 : Int32)), .unset, .unset, .unset, .unset, .unset, .unset]) rfl (pc' := 41) rfl ?_
  refine own_iload X2 hx hby d_prog_57_method_1_code_41 rfl (pc' := 43) rfl ?_
  obtain ⟨T3, h3, k3, X3, e3, E3, A3, st3⟩ := newP X2 hx hZ (own_w hw 45 rfl) e2 (g := (mkF m 43 #[.val (.ref a), .val (.int p1), .val (.int p2), .val (.int p3), .val (.ref li), .val (.int (0 : Int32)), .unset, .unset, .unset, .unset, .unset, .unset] [(.int (0 : Int32))])) rfl (hb hby d_prog_57_method_1_code_43) rfl (by decide) (cap := 0) (by decide) (by decide) (by decide) (by decide)
  obtain ⟨b3, g3⟩ : ∃ z, z = h0.size := ⟨_, rfl⟩
  have ne_a_b3 : a ≠ b3 := Nat.ne_of_lt (g3 ▸ E.lt)
  have ne_li_b3 : li ≠ b3 := Nat.ne_of_lt (g3 ▸ El.lt)
  have E4_a := E.ext E3
  have E5_li := El.ext E3
  have F6_size := Fs.ext E3
  have F7_graph := F_graph.ext E3
  have F8_zoneCount := F_zoneCount.ext E3
  have F9_firstThruNode := F_firstThruNode.ext E3
  have F10_linkTail := F_linkTail.ext E3
  have F11_linkArc := F_linkArc.ext E3
  have F12_capacity := F_capacity.ext E3
  have F13_freeFlowTime := F_freeFlowTime.ext E3
  have F14_b := F_b.ext E3
  have F15_power := F_power.ext E3
  have Z3 : n0 ≤ h3.size := Nat.le_trans Z0 E3.1
  have n0_b3 : n0 ≤ b3 := g3 ▸ Z0
  have sz_b3 : h0.size ≤ b3 := g3 ▸ K0.1
  have K3 : Keep h0 h3 [a] := K0.ext E3
  rw [← g3] at A3 st3
  refine own_step st3 ?_
  have I3 : IA Z h3 b3 (0 : Int32) := IA.new A3 (by decide)
  show GoP p e below Φ (T3.setTop (mkF m 45 #[.val (.ref a), .val (.int p1), .val (.int p2), .val (.int p3), .val (.ref li), .val (.int (0 : Int32)), .unset, .unset, .unset, .unset, .unset, .unset] [(.ref b3)]))
  refine own_astore X3 hx hby d_prog_57_method_1_code_45 rfl (Ls' := #[.val (.ref a), .val (.int p1), .val (.int p2), .val (.int p3), .val (.ref li), .val (.int (0 : Int32)), .val (.ref b3), .unset, .unset, .unset, .unset, .unset]) rfl (pc' := 47) rfl ?_
  refine own_iload X3 hx hby d_prog_57_method_1_code_47 rfl (pc' := 49) rfl ?_
  obtain ⟨T16, h16, k16, X16, e16, E16, A16, st16⟩ := newP X3 hx hZ (own_w hw 45 rfl) e3 (g := (mkF m 49 #[.val (.ref a), .val (.int p1), .val (.int p2), .val (.int p3), .val (.ref li), .val (.int (0 : Int32)), .val (.ref b3), .unset, .unset, .unset, .unset, .unset] [(.int (0 : Int32))])) rfl (hb hby d_prog_57_method_1_code_49) rfl (by decide) (cap := 0) (by decide) (by decide) (by decide) (by decide)
  obtain ⟨b16, g16⟩ : ∃ z, z = h3.size := ⟨_, rfl⟩
  have ne_a_b16 : a ≠ b16 := Nat.ne_of_lt (g16 ▸ E4_a.lt)
  have ne_li_b16 : li ≠ b16 := Nat.ne_of_lt (g16 ▸ E5_li.lt)
  have ne_b3_b16 : b3 ≠ b16 := Nat.ne_of_lt (g16 ▸ I3.lt)
  have E17_a := E4_a.ext E16
  have E18_li := E5_li.ext E16
  have F19_size := F6_size.ext E16
  have F20_graph := F7_graph.ext E16
  have F21_zoneCount := F8_zoneCount.ext E16
  have F22_firstThruNode := F9_firstThruNode.ext E16
  have F23_linkTail := F10_linkTail.ext E16
  have F24_linkArc := F11_linkArc.ext E16
  have F25_capacity := F12_capacity.ext E16
  have F26_freeFlowTime := F13_freeFlowTime.ext E16
  have F27_b := F14_b.ext E16
  have F28_power := F15_power.ext E16
  have I29_b3 := I3.ext E16
  have Z16 : n0 ≤ h16.size := Nat.le_trans Z3 E16.1
  have n0_b16 : n0 ≤ b16 := g16 ▸ Z3
  have sz_b16 : h0.size ≤ b16 := g16 ▸ K3.1
  have K16 : Keep h0 h16 [a] := K3.ext E16
  rw [← g16] at A16 st16
  refine own_step st16 ?_
  have I16 : IA Z h16 b16 (0 : Int32) := IA.new A16 (by decide)
  show GoP p e below Φ (T16.setTop (mkF m 51 #[.val (.ref a), .val (.int p1), .val (.int p2), .val (.int p3), .val (.ref li), .val (.int (0 : Int32)), .val (.ref b3), .unset, .unset, .unset, .unset, .unset] [(.ref b16)]))
  refine own_astore X16 hx hby d_prog_57_method_1_code_51 rfl (Ls' := #[.val (.ref a), .val (.int p1), .val (.int p2), .val (.int p3), .val (.ref li), .val (.int (0 : Int32)), .val (.ref b3), .val (.ref b16), .unset, .unset, .unset, .unset]) rfl (pc' := 53) rfl ?_
  refine own_iconst X16 hx hby d_prog_57_method_1_code_53 (v := (0 : Int32)) rfl (pc' := 54) rfl ?_
  refine own_istore X16 hx hby d_prog_57_method_1_code_54  (Ls' := #[.val (.ref a), .val (.int p1), .val (.int p2), .val (.int p3), .val (.ref li), .val (.int (0 : Int32)), .val (.ref b3), .val (.ref b16), .val (.int (0 : Int32)), .unset, .unset, .unset]) rfl (pc' := 56) rfl ?_
  refine own_iload X16 hx hby d_prog_57_method_1_code_56 rfl (pc' := 58) rfl ?_
  refine own_iload X16 hx hby d_prog_57_method_1_code_58 rfl (pc' := 60) rfl ?_
  refine own_icmpY X16 hx hby d_prog_57_method_1_code_60 (flt (by decide)).2.1 (by decide) (pc' := 173) (by decide) ?_
  refine own_aloadN X16 hx hby d_prog_57_method_1_code_173 rfl rfl (pc' := 174) rfl ?_
  refine own_iloadN X16 hx hby d_prog_57_method_1_code_174 rfl (pc' := 175) rfl ?_
  refine own_iload X16 hx hby d_prog_57_method_1_code_175 rfl (pc' := 177) rfl ?_
  refine own_aload X16 hx hby d_prog_57_method_1_code_177 rfl rfl (pc' := 179) rfl ?_
  refine own_aload X16 hx hby d_prog_57_method_1_code_179 rfl rfl (pc' := 181) rfl ?_
  refine own_iload X16 hx hby d_prog_57_method_1_code_181 rfl (pc' := 183) rfl ?_
  obtain ⟨T30, h30, k30, X30, e30, E30, A30, st30⟩ := newP X16 hx hZ (own_w hw 46 rfl) e16 (g := (mkF m 183 #[.val (.ref a), .val (.int p1), .val (.int p2), .val (.int p3), .val (.ref li), .val (.int (0 : Int32)), .val (.ref b3), .val (.ref b16), .val (.int (0 : Int32)), .unset, .unset, .unset] [(.int (0 : Int32)), (.ref b16), (.ref b3), (.int (0 : Int32)), (.int p1), (.ref a)])) rfl (hb hby d_prog_57_method_1_code_183) rfl (by decide) (cap := 0) (by decide) (by decide) (by decide) (by decide)
  obtain ⟨b30, g30⟩ : ∃ z, z = h16.size := ⟨_, rfl⟩
  have ne_a_b30 : a ≠ b30 := Nat.ne_of_lt (g30 ▸ E17_a.lt)
  have ne_li_b30 : li ≠ b30 := Nat.ne_of_lt (g30 ▸ E18_li.lt)
  have ne_b3_b30 : b3 ≠ b30 := Nat.ne_of_lt (g30 ▸ I29_b3.lt)
  have ne_b16_b30 : b16 ≠ b30 := Nat.ne_of_lt (g30 ▸ I16.lt)
  have E31_a := E17_a.ext E30
  have E32_li := E18_li.ext E30
  have F33_size := F19_size.ext E30
  have F34_graph := F20_graph.ext E30
  have F35_zoneCount := F21_zoneCount.ext E30
  have F36_firstThruNode := F22_firstThruNode.ext E30
  have F37_linkTail := F23_linkTail.ext E30
  have F38_linkArc := F24_linkArc.ext E30
  have F39_capacity := F25_capacity.ext E30
  have F40_freeFlowTime := F26_freeFlowTime.ext E30
  have F41_b := F27_b.ext E30
  have F42_power := F28_power.ext E30
  have I43_b3 := I29_b3.ext E30
  have I44_b16 := I16.ext E30
  have Z30 : n0 ≤ h30.size := Nat.le_trans Z16 E30.1
  have n0_b30 : n0 ≤ b30 := g30 ▸ Z16
  have sz_b30 : h0.size ≤ b30 := g30 ▸ K16.1
  have K30 : Keep h0 h30 [a] := K16.ext E30
  rw [← g30] at A30 st30
  refine own_step st30 ?_
  have V30 : AV Z h30 b30 .long [] := AV.new A30 (by decide)
  show GoP p e below Φ (T30.setTop (mkF m 185 #[.val (.ref a), .val (.int p1), .val (.int p2), .val (.int p3), .val (.ref li), .val (.int (0 : Int32)), .val (.ref b3), .val (.ref b16), .val (.int (0 : Int32)), .unset, .unset, .unset] [(.ref b30), (.ref b16), (.ref b3), (.int (0 : Int32)), (.int p1), (.ref a)]))
  refine own_callS X30 hx hby hZ (by exact hml) hown (own_w hw 47 rfl) (own_w hw 48 rfl) (own_w hw 49 rfl) (own_w hw 50 rfl) (by decide) e30 1 (by decide) (by decide) (by decide) (by decide) (argsL := [(.int p1), (.int (0 : Int32)), (.ref b3), (.ref b16), (.ref b30)]) (rest := [(.ref a)]) (lenOf pd__II_I_I_J_Lcom_example_wayfold_wayfold_Graph_ rfl) rfl (rmG l Z a0 hw p1 b3 b16 b30 n0 h30 Z30 hn1 hn2 I43_b3 I44_b16 V30) (Nat.le_of_eq rfl) d_prog_57_method_1_code_185 (pc' := 188) rfl ?_
  intro v45 T45 L45 X45 hQ45
  obtain ⟨gr, fa, rfl, Nq45, K45, sg, sf, E45, FA45, IF45⟩ := hQ45
  have ne_a_gr : a ≠ gr := Nat.ne_of_lt (Nat.lt_of_lt_of_le E31_a.lt sg)
  have ne_b3_gr : b3 ≠ gr := Nat.ne_of_lt (Nat.lt_of_lt_of_le I43_b3.lt sg)
  have ne_b16_gr : b16 ≠ gr := Nat.ne_of_lt (Nat.lt_of_lt_of_le I44_b16.lt sg)
  have ne_b30_gr : b30 ≠ gr := Nat.ne_of_lt (Nat.lt_of_lt_of_le V30.lt sg)
  have ne_a_fa : a ≠ fa := Nat.ne_of_lt (Nat.lt_of_lt_of_le E31_a.lt sf)
  have ne_b3_fa : b3 ≠ fa := Nat.ne_of_lt (Nat.lt_of_lt_of_le I43_b3.lt sf)
  have ne_b16_fa : b16 ≠ fa := Nat.ne_of_lt (Nat.lt_of_lt_of_le I44_b16.lt sf)
  have ne_b30_fa : b30 ≠ fa := Nat.ne_of_lt (Nat.lt_of_lt_of_le V30.lt sf)
  have E46_a := E31_a.keep K45
  have F47_graph := F34_graph.keep K45 nin0
  have F48_zoneCount := F35_zoneCount.keep K45 nin0
  have F49_firstThruNode := F36_firstThruNode.keep K45 nin0
  have F50_linkTail := F37_linkTail.keep K45 nin0
  have F51_linkArc := F38_linkArc.keep K45 nin0
  have F52_capacity := F39_capacity.keep K45 nin0
  have F53_freeFlowTime := F40_freeFlowTime.keep K45 nin0
  have F54_b := F41_b.keep K45 nin0
  have F55_power := F42_power.keep K45 nin0
  have N45 := Fr.app N0 Nq45
  have Z45 : n0 ≤ T45.heap.size := Nat.le_trans Z30 K45.1
  have KK45 : Keep h0 T45.heap [a] := K30.trans K45 all0
  show GoP p e below Φ (T45.setTop (mkF m 188 #[.val (.ref a), .val (.int p1), .val (.int p2), .val (.int p3), .val (.ref li), .val (.int (0 : Int32)), .val (.ref b3), .val (.ref b16), .val (.int (0 : Int32)), .unset, .unset, .unset] [(.ref gr), (.ref a)]))
  obtain ⟨T56, h56, X56, e56, W56, st56⟩ := putF X45 hx hZ hown (host := "") (Or.inl (own_w hw 69 rfl)) Via.refl rfl F47_graph E46_a (Or.inr ⟨(own_w hw 70 rfl), rfl, hnm⟩) (own_w hw 2 rfl) (ty := (.object "com/example/wayfold/wayfold/Graph")) (by decide) rfl rfl (g := (mkF m 188 #[.val (.ref a), .val (.int p1), .val (.int p2), .val (.int p3), .val (.ref li), .val (.int (0 : Int32)), .val (.ref b3), .val (.ref b16), .val (.int (0 : Int32)), .unset, .unset, .unset] [(.ref gr), (.ref a)])) rfl rfl (hb hby d_prog_57_method_1_code_188)
  refine own_step st56 ?_
  have E57_a := E46_a.wr W56
  have F58_graph := F47_graph.same W56
  have F59_zoneCount := F48_zoneCount.other W56 (Or.inr (slot_ne (Or.inr (own_w hw 72 rfl)) (Or.inr (own_w hw 70 rfl)) (by decide) (t := .int) (t' := (.object "com/example/wayfold/wayfold/Graph")) (by decide) (by decide)))
  have F60_firstThruNode := F49_firstThruNode.other W56 (Or.inr (slot_ne (Or.inr (own_w hw 74 rfl)) (Or.inr (own_w hw 70 rfl)) (by decide) (t := .int) (t' := (.object "com/example/wayfold/wayfold/Graph")) (by decide) (by decide)))
  have F61_linkTail := F50_linkTail.other W56 (Or.inr (slot_ne (Or.inr (own_w hw 76 rfl)) (Or.inr (own_w hw 70 rfl)) (by decide) (t := (.array .int)) (t' := (.object "com/example/wayfold/wayfold/Graph")) (by decide) (by decide)))
  have F62_linkArc := F51_linkArc.other W56 (Or.inr (slot_ne (Or.inr (own_w hw 78 rfl)) (Or.inr (own_w hw 70 rfl)) (by decide) (t := (.array .int)) (t' := (.object "com/example/wayfold/wayfold/Graph")) (by decide) (by decide)))
  have F63_capacity := F52_capacity.other W56 (Or.inr (slot_ne (Or.inr (own_w hw 86 rfl)) (Or.inr (own_w hw 70 rfl)) (by decide) (t := (.array .double)) (t' := (.object "com/example/wayfold/wayfold/Graph")) (by decide) (by decide)))
  have F64_freeFlowTime := F53_freeFlowTime.other W56 (Or.inr (slot_ne (Or.inr (own_w hw 88 rfl)) (Or.inr (own_w hw 70 rfl)) (by decide) (t := (.array .double)) (t' := (.object "com/example/wayfold/wayfold/Graph")) (by decide) (by decide)))
  have F65_b := F54_b.other W56 (Or.inr (slot_ne (Or.inr (own_w hw 90 rfl)) (Or.inr (own_w hw 70 rfl)) (by decide) (t := (.array .double)) (t' := (.object "com/example/wayfold/wayfold/Graph")) (by decide) (by decide)))
  have F66_power := F55_power.other W56 (Or.inr (slot_ne (Or.inr (own_w hw 92 rfl)) (Or.inr (own_w hw 70 rfl)) (by decide) (t := (.array .double)) (t' := (.object "com/example/wayfold/wayfold/Graph")) (by decide) (by decide)))
  have E67_gr := E45.wr W56
  have F68_firstArc := FA45.other W56 (Or.inl (Ne.symm ne_a_gr))
  have I69_fa := IF45.other W56 (Ne.symm ne_a_fa)
  have Z56 : n0 ≤ h56.size := by rw [W56.size]; exact Z45
  have N56 := Fr.snoc X56 N45 n0_a
  have K56 : Keep h0 h56 [a] := KK45.wr W56 (Or.inl (List.mem_of_getElem? (i := 0) rfl))
  show GoP p e below Φ (T56.setTop (mkF m 191 #[.val (.ref a), .val (.int p1), .val (.int p2), .val (.int p3), .val (.ref li), .val (.int (0 : Int32)), .val (.ref b3), .val (.ref b16), .val (.int (0 : Int32)), .unset, .unset, .unset] []))
  refine own_aloadN X56 hx hby d_prog_57_method_1_code_191 rfl rfl (pc' := 192) rfl ?_
  refine own_iloadN X56 hx hby d_prog_57_method_1_code_192 rfl (pc' := 193) rfl ?_
  obtain ⟨T70, h70, X70, e70, W70, st70⟩ := putF X56 hx hZ hown (host := "") (Or.inl (own_w hw 71 rfl)) Via.refl e56 F59_zoneCount E57_a (Or.inr ⟨(own_w hw 72 rfl), rfl, hnm⟩) (own_w hw 2 rfl) (ty := .int) (by decide) rfl rfl (g := (mkF m 193 #[.val (.ref a), .val (.int p1), .val (.int p2), .val (.int p3), .val (.ref li), .val (.int (0 : Int32)), .val (.ref b3), .val (.ref b16), .val (.int (0 : Int32)), .unset, .unset, .unset] [(.int p2), (.ref a)])) rfl rfl (hb hby d_prog_57_method_1_code_193)
  refine own_step st70 ?_
  have E71_a := E57_a.wr W70
  have F72_graph := F58_graph.other W70 (Or.inr (slot_ne (Or.inr (own_w hw 70 rfl)) (Or.inr (own_w hw 72 rfl)) (by decide) (t := (.object "com/example/wayfold/wayfold/Graph")) (t' := .int) (by decide) (by decide)))
  have F73_zoneCount := F59_zoneCount.same W70
  have F74_firstThruNode := F60_firstThruNode.other W70 (Or.inr (slot_ne (Or.inr (own_w hw 74 rfl)) (Or.inr (own_w hw 72 rfl)) (by decide) (t := .int) (t' := .int) (by decide) (by decide)))
  have F75_linkTail := F61_linkTail.other W70 (Or.inr (slot_ne (Or.inr (own_w hw 76 rfl)) (Or.inr (own_w hw 72 rfl)) (by decide) (t := (.array .int)) (t' := .int) (by decide) (by decide)))
  have F76_linkArc := F62_linkArc.other W70 (Or.inr (slot_ne (Or.inr (own_w hw 78 rfl)) (Or.inr (own_w hw 72 rfl)) (by decide) (t := (.array .int)) (t' := .int) (by decide) (by decide)))
  have F77_capacity := F63_capacity.other W70 (Or.inr (slot_ne (Or.inr (own_w hw 86 rfl)) (Or.inr (own_w hw 72 rfl)) (by decide) (t := (.array .double)) (t' := .int) (by decide) (by decide)))
  have F78_freeFlowTime := F64_freeFlowTime.other W70 (Or.inr (slot_ne (Or.inr (own_w hw 88 rfl)) (Or.inr (own_w hw 72 rfl)) (by decide) (t := (.array .double)) (t' := .int) (by decide) (by decide)))
  have F79_b := F65_b.other W70 (Or.inr (slot_ne (Or.inr (own_w hw 90 rfl)) (Or.inr (own_w hw 72 rfl)) (by decide) (t := (.array .double)) (t' := .int) (by decide) (by decide)))
  have F80_power := F66_power.other W70 (Or.inr (slot_ne (Or.inr (own_w hw 92 rfl)) (Or.inr (own_w hw 72 rfl)) (by decide) (t := (.array .double)) (t' := .int) (by decide) (by decide)))
  have E81_gr := E67_gr.wr W70
  have F82_firstArc := F68_firstArc.other W70 (Or.inl (Ne.symm ne_a_gr))
  have I83_fa := I69_fa.other W70 (Ne.symm ne_a_fa)
  have Z70 : n0 ≤ h70.size := by rw [W70.size]; exact Z56
  have N70 := Fr.snoc X70 N56 n0_a
  have K70 : Keep h0 h70 [a] := K56.wr W70 (Or.inl (List.mem_of_getElem? (i := 0) rfl))
  show GoP p e below Φ (T70.setTop (mkF m 196 #[.val (.ref a), .val (.int p1), .val (.int p2), .val (.int p3), .val (.ref li), .val (.int (0 : Int32)), .val (.ref b3), .val (.ref b16), .val (.int (0 : Int32)), .unset, .unset, .unset] []))
  refine own_aloadN X70 hx hby d_prog_57_method_1_code_196 rfl rfl (pc' := 197) rfl ?_
  refine own_iloadN X70 hx hby d_prog_57_method_1_code_197 rfl (pc' := 198) rfl ?_
  obtain ⟨T84, h84, X84, e84, W84, st84⟩ := putF X70 hx hZ hown (host := "") (Or.inl (own_w hw 73 rfl)) Via.refl e70 F74_firstThruNode E71_a (Or.inr ⟨(own_w hw 74 rfl), rfl, hnm⟩) (own_w hw 2 rfl) (ty := .int) (by decide) rfl rfl (g := (mkF m 198 #[.val (.ref a), .val (.int p1), .val (.int p2), .val (.int p3), .val (.ref li), .val (.int (0 : Int32)), .val (.ref b3), .val (.ref b16), .val (.int (0 : Int32)), .unset, .unset, .unset] [(.int p3), (.ref a)])) rfl rfl (hb hby d_prog_57_method_1_code_198)
  refine own_step st84 ?_
  have E85_a := E71_a.wr W84
  have F86_graph := F72_graph.other W84 (Or.inr (slot_ne (Or.inr (own_w hw 70 rfl)) (Or.inr (own_w hw 74 rfl)) (by decide) (t := (.object "com/example/wayfold/wayfold/Graph")) (t' := .int) (by decide) (by decide)))
  have F87_zoneCount := F73_zoneCount.other W84 (Or.inr (slot_ne (Or.inr (own_w hw 72 rfl)) (Or.inr (own_w hw 74 rfl)) (by decide) (t := .int) (t' := .int) (by decide) (by decide)))
  have F88_firstThruNode := F74_firstThruNode.same W84
  have F89_linkTail := F75_linkTail.other W84 (Or.inr (slot_ne (Or.inr (own_w hw 76 rfl)) (Or.inr (own_w hw 74 rfl)) (by decide) (t := (.array .int)) (t' := .int) (by decide) (by decide)))
  have F90_linkArc := F76_linkArc.other W84 (Or.inr (slot_ne (Or.inr (own_w hw 78 rfl)) (Or.inr (own_w hw 74 rfl)) (by decide) (t := (.array .int)) (t' := .int) (by decide) (by decide)))
  have F91_capacity := F77_capacity.other W84 (Or.inr (slot_ne (Or.inr (own_w hw 86 rfl)) (Or.inr (own_w hw 74 rfl)) (by decide) (t := (.array .double)) (t' := .int) (by decide) (by decide)))
  have F92_freeFlowTime := F78_freeFlowTime.other W84 (Or.inr (slot_ne (Or.inr (own_w hw 88 rfl)) (Or.inr (own_w hw 74 rfl)) (by decide) (t := (.array .double)) (t' := .int) (by decide) (by decide)))
  have F93_b := F79_b.other W84 (Or.inr (slot_ne (Or.inr (own_w hw 90 rfl)) (Or.inr (own_w hw 74 rfl)) (by decide) (t := (.array .double)) (t' := .int) (by decide) (by decide)))
  have F94_power := F80_power.other W84 (Or.inr (slot_ne (Or.inr (own_w hw 92 rfl)) (Or.inr (own_w hw 74 rfl)) (by decide) (t := (.array .double)) (t' := .int) (by decide) (by decide)))
  have E95_gr := E81_gr.wr W84
  have F96_firstArc := F82_firstArc.other W84 (Or.inl (Ne.symm ne_a_gr))
  have I97_fa := I83_fa.other W84 (Ne.symm ne_a_fa)
  have Z84 : n0 ≤ h84.size := by rw [W84.size]; exact Z70
  have N84 := Fr.snoc X84 N70 n0_a
  have K84 : Keep h0 h84 [a] := K70.wr W84 (Or.inl (List.mem_of_getElem? (i := 0) rfl))
  show GoP p e below Φ (T84.setTop (mkF m 201 #[.val (.ref a), .val (.int p1), .val (.int p2), .val (.int p3), .val (.ref li), .val (.int (0 : Int32)), .val (.ref b3), .val (.ref b16), .val (.int (0 : Int32)), .unset, .unset, .unset] []))
  refine own_aloadN X84 hx hby d_prog_57_method_1_code_201 rfl rfl (pc' := 202) rfl ?_
  refine own_aload X84 hx hby d_prog_57_method_1_code_202 rfl rfl (pc' := 204) rfl ?_
  obtain ⟨T98, h98, X98, e98, W98, st98⟩ := putF X84 hx hZ hown (host := "") (Or.inl (own_w hw 75 rfl)) Via.refl e84 F89_linkTail E85_a (Or.inr ⟨(own_w hw 76 rfl), rfl, hnm⟩) (own_w hw 2 rfl) (ty := (.array .int)) (by decide) rfl rfl (g := (mkF m 204 #[.val (.ref a), .val (.int p1), .val (.int p2), .val (.int p3), .val (.ref li), .val (.int (0 : Int32)), .val (.ref b3), .val (.ref b16), .val (.int (0 : Int32)), .unset, .unset, .unset] [(.ref b3), (.ref a)])) rfl rfl (hb hby d_prog_57_method_1_code_204)
  refine own_step st98 ?_
  have E99_a := E85_a.wr W98
  have F100_graph := F86_graph.other W98 (Or.inr (slot_ne (Or.inr (own_w hw 70 rfl)) (Or.inr (own_w hw 76 rfl)) (by decide) (t := (.object "com/example/wayfold/wayfold/Graph")) (t' := (.array .int)) (by decide) (by decide)))
  have F101_zoneCount := F87_zoneCount.other W98 (Or.inr (slot_ne (Or.inr (own_w hw 72 rfl)) (Or.inr (own_w hw 76 rfl)) (by decide) (t := .int) (t' := (.array .int)) (by decide) (by decide)))
  have F102_firstThruNode := F88_firstThruNode.other W98 (Or.inr (slot_ne (Or.inr (own_w hw 74 rfl)) (Or.inr (own_w hw 76 rfl)) (by decide) (t := .int) (t' := (.array .int)) (by decide) (by decide)))
  have F103_linkTail := F89_linkTail.same W98
  have F104_linkArc := F90_linkArc.other W98 (Or.inr (slot_ne (Or.inr (own_w hw 78 rfl)) (Or.inr (own_w hw 76 rfl)) (by decide) (t := (.array .int)) (t' := (.array .int)) (by decide) (by decide)))
  have F105_capacity := F91_capacity.other W98 (Or.inr (slot_ne (Or.inr (own_w hw 86 rfl)) (Or.inr (own_w hw 76 rfl)) (by decide) (t := (.array .double)) (t' := (.array .int)) (by decide) (by decide)))
  have F106_freeFlowTime := F92_freeFlowTime.other W98 (Or.inr (slot_ne (Or.inr (own_w hw 88 rfl)) (Or.inr (own_w hw 76 rfl)) (by decide) (t := (.array .double)) (t' := (.array .int)) (by decide) (by decide)))
  have F107_b := F93_b.other W98 (Or.inr (slot_ne (Or.inr (own_w hw 90 rfl)) (Or.inr (own_w hw 76 rfl)) (by decide) (t := (.array .double)) (t' := (.array .int)) (by decide) (by decide)))
  have F108_power := F94_power.other W98 (Or.inr (slot_ne (Or.inr (own_w hw 92 rfl)) (Or.inr (own_w hw 76 rfl)) (by decide) (t := (.array .double)) (t' := (.array .int)) (by decide) (by decide)))
  have E109_gr := E95_gr.wr W98
  have F110_firstArc := F96_firstArc.other W98 (Or.inl (Ne.symm ne_a_gr))
  have I111_fa := I97_fa.other W98 (Ne.symm ne_a_fa)
  have Z98 : n0 ≤ h98.size := by rw [W98.size]; exact Z84
  have N98 := Fr.snoc X98 N84 n0_a
  have K98 : Keep h0 h98 [a] := K84.wr W98 (Or.inl (List.mem_of_getElem? (i := 0) rfl))
  show GoP p e below Φ (T98.setTop (mkF m 207 #[.val (.ref a), .val (.int p1), .val (.int p2), .val (.int p3), .val (.ref li), .val (.int (0 : Int32)), .val (.ref b3), .val (.ref b16), .val (.int (0 : Int32)), .unset, .unset, .unset] []))
  refine own_aloadN X98 hx hby d_prog_57_method_1_code_207 rfl rfl (pc' := 208) rfl ?_
  refine own_iload X98 hx hby d_prog_57_method_1_code_208 rfl (pc' := 210) rfl ?_
  obtain ⟨T112, h112, k112, X112, e112, E112, A112, st112⟩ := newP X98 hx hZ (own_w hw 45 rfl) e98 (g := (mkF m 210 #[.val (.ref a), .val (.int p1), .val (.int p2), .val (.int p3), .val (.ref li), .val (.int (0 : Int32)), .val (.ref b3), .val (.ref b16), .val (.int (0 : Int32)), .unset, .unset, .unset] [(.int (0 : Int32)), (.ref a)])) rfl (hb hby d_prog_57_method_1_code_210) rfl (by decide) (cap := 0) (by decide) (by decide) (by decide) (by decide)
  obtain ⟨b112, g112⟩ : ∃ z, z = h98.size := ⟨_, rfl⟩
  have ne_a_b112 : a ≠ b112 := Nat.ne_of_lt (g112 ▸ E99_a.lt)
  have ne_gr_b112 : gr ≠ b112 := Nat.ne_of_lt (g112 ▸ E109_gr.lt)
  have ne_fa_b112 : fa ≠ b112 := Nat.ne_of_lt (g112 ▸ I111_fa.lt)
  have E113_a := E99_a.ext E112
  have F114_graph := F100_graph.ext E112
  have F115_zoneCount := F101_zoneCount.ext E112
  have F116_firstThruNode := F102_firstThruNode.ext E112
  have F117_linkTail := F103_linkTail.ext E112
  have F118_linkArc := F104_linkArc.ext E112
  have F119_capacity := F105_capacity.ext E112
  have F120_freeFlowTime := F106_freeFlowTime.ext E112
  have F121_b := F107_b.ext E112
  have F122_power := F108_power.ext E112
  have E123_gr := E109_gr.ext E112
  have F124_firstArc := F110_firstArc.ext E112
  have I125_fa := I111_fa.ext E112
  have Z112 : n0 ≤ h112.size := Nat.le_trans Z98 E112.1
  have n0_b112 : n0 ≤ b112 := g112 ▸ Z98
  have sz_b112 : h0.size ≤ b112 := g112 ▸ K98.1
  have K112 : Keep h0 h112 [a] := K98.ext E112
  rw [← g112] at A112 st112
  refine own_step st112 ?_
  have I112 : IA Z h112 b112 (0 : Int32) := IA.new A112 (by decide)
  show GoP p e below Φ (T112.setTop (mkF m 212 #[.val (.ref a), .val (.int p1), .val (.int p2), .val (.int p3), .val (.ref li), .val (.int (0 : Int32)), .val (.ref b3), .val (.ref b16), .val (.int (0 : Int32)), .unset, .unset, .unset] [(.ref b112), (.ref a)]))
  obtain ⟨T126, h126, X126, e126, W126, st126⟩ := putF X112 hx hZ hown (host := "") (Or.inl (own_w hw 77 rfl)) Via.refl e112 F118_linkArc E113_a (Or.inr ⟨(own_w hw 78 rfl), rfl, hnm⟩) (own_w hw 2 rfl) (ty := (.array .int)) (by decide) rfl rfl (g := (mkF m 212 #[.val (.ref a), .val (.int p1), .val (.int p2), .val (.int p3), .val (.ref li), .val (.int (0 : Int32)), .val (.ref b3), .val (.ref b16), .val (.int (0 : Int32)), .unset, .unset, .unset] [(.ref b112), (.ref a)])) rfl rfl (hb hby d_prog_57_method_1_code_212)
  refine own_step st126 ?_
  have E127_a := E113_a.wr W126
  have F128_graph := F114_graph.other W126 (Or.inr (slot_ne (Or.inr (own_w hw 70 rfl)) (Or.inr (own_w hw 78 rfl)) (by decide) (t := (.object "com/example/wayfold/wayfold/Graph")) (t' := (.array .int)) (by decide) (by decide)))
  have F129_zoneCount := F115_zoneCount.other W126 (Or.inr (slot_ne (Or.inr (own_w hw 72 rfl)) (Or.inr (own_w hw 78 rfl)) (by decide) (t := .int) (t' := (.array .int)) (by decide) (by decide)))
  have F130_firstThruNode := F116_firstThruNode.other W126 (Or.inr (slot_ne (Or.inr (own_w hw 74 rfl)) (Or.inr (own_w hw 78 rfl)) (by decide) (t := .int) (t' := (.array .int)) (by decide) (by decide)))
  have F131_linkTail := F117_linkTail.other W126 (Or.inr (slot_ne (Or.inr (own_w hw 76 rfl)) (Or.inr (own_w hw 78 rfl)) (by decide) (t := (.array .int)) (t' := (.array .int)) (by decide) (by decide)))
  have F132_linkArc := F118_linkArc.same W126
  have F133_capacity := F119_capacity.other W126 (Or.inr (slot_ne (Or.inr (own_w hw 86 rfl)) (Or.inr (own_w hw 78 rfl)) (by decide) (t := (.array .double)) (t' := (.array .int)) (by decide) (by decide)))
  have F134_freeFlowTime := F120_freeFlowTime.other W126 (Or.inr (slot_ne (Or.inr (own_w hw 88 rfl)) (Or.inr (own_w hw 78 rfl)) (by decide) (t := (.array .double)) (t' := (.array .int)) (by decide) (by decide)))
  have F135_b := F121_b.other W126 (Or.inr (slot_ne (Or.inr (own_w hw 90 rfl)) (Or.inr (own_w hw 78 rfl)) (by decide) (t := (.array .double)) (t' := (.array .int)) (by decide) (by decide)))
  have F136_power := F122_power.other W126 (Or.inr (slot_ne (Or.inr (own_w hw 92 rfl)) (Or.inr (own_w hw 78 rfl)) (by decide) (t := (.array .double)) (t' := (.array .int)) (by decide) (by decide)))
  have E137_gr := E123_gr.wr W126
  have F138_firstArc := F124_firstArc.other W126 (Or.inl (Ne.symm ne_a_gr))
  have I139_fa := I125_fa.other W126 (Ne.symm ne_a_fa)
  have I140_b112 := I112.other W126 (Ne.symm ne_a_b112)
  have Z126 : n0 ≤ h126.size := by rw [W126.size]; exact Z112
  have N126 := Fr.snoc X126 N98 n0_a
  have K126 : Keep h0 h126 [a] := K112.wr W126 (Or.inl (List.mem_of_getElem? (i := 0) rfl))
  show GoP p e below Φ (T126.setTop (mkF m 215 #[.val (.ref a), .val (.int p1), .val (.int p2), .val (.int p3), .val (.ref li), .val (.int (0 : Int32)), .val (.ref b3), .val (.ref b16), .val (.int (0 : Int32)), .unset, .unset, .unset] []))
  refine own_iloadN X126 hx hby d_prog_57_method_1_code_215 rfl (pc' := 216) rfl ?_
  refine own_iconst X126 hx hby d_prog_57_method_1_code_216 (v := (1 : Int32)) rfl (pc' := 217) rfl ?_
  refine own_iadd X126 hx hby d_prog_57_method_1_code_217 (pc' := 218) rfl ?_
  obtain ⟨T141, h141, k141, X141, e141, E141, A141, st141⟩ := newP X126 hx hZ (own_w hw 45 rfl) e126 (g := (mkF m 218 #[.val (.ref a), .val (.int p1), .val (.int p2), .val (.int p3), .val (.ref li), .val (.int (0 : Int32)), .val (.ref b3), .val (.ref b16), .val (.int (0 : Int32)), .unset, .unset, .unset] [(.int (p1 + (1 : Int32)))])) rfl (hb hby d_prog_57_method_1_code_218) rfl (own_geI (by rw [own_z0]; omega)) (cap := 17) (own_clamp (by omega)) (by decide) (by decide) (by decide)
  obtain ⟨b141, g141⟩ : ∃ z, z = h126.size := ⟨_, rfl⟩
  have ne_a_b141 : a ≠ b141 := Nat.ne_of_lt (g141 ▸ E127_a.lt)
  have ne_gr_b141 : gr ≠ b141 := Nat.ne_of_lt (g141 ▸ E137_gr.lt)
  have ne_fa_b141 : fa ≠ b141 := Nat.ne_of_lt (g141 ▸ I139_fa.lt)
  have ne_b112_b141 : b112 ≠ b141 := Nat.ne_of_lt (g141 ▸ I140_b112.lt)
  have E142_a := E127_a.ext E141
  have F143_graph := F128_graph.ext E141
  have F144_zoneCount := F129_zoneCount.ext E141
  have F145_firstThruNode := F130_firstThruNode.ext E141
  have F146_linkTail := F131_linkTail.ext E141
  have F147_linkArc := F132_linkArc.ext E141
  have F148_capacity := F133_capacity.ext E141
  have F149_freeFlowTime := F134_freeFlowTime.ext E141
  have F150_b := F135_b.ext E141
  have F151_power := F136_power.ext E141
  have E152_gr := E137_gr.ext E141
  have F153_firstArc := F138_firstArc.ext E141
  have I154_fa := I139_fa.ext E141
  have I155_b112 := I140_b112.ext E141
  have Z141 : n0 ≤ h141.size := Nat.le_trans Z126 E141.1
  have n0_b141 : n0 ≤ b141 := g141 ▸ Z126
  have sz_b141 : h0.size ≤ b141 := g141 ▸ K126.1
  have K141 : Keep h0 h141 [a] := K126.ext E141
  rw [← g141] at A141 st141
  refine own_step st141 ?_
  have I141 : IA Z h141 b141 (p1 + (1 : Int32)) := IA.new A141 (own_geI (by rw [own_z0]; omega))
  show GoP p e below Φ (T141.setTop (mkF m 220 #[.val (.ref a), .val (.int p1), .val (.int p2), .val (.int p3), .val (.ref li), .val (.int (0 : Int32)), .val (.ref b3), .val (.ref b16), .val (.int (0 : Int32)), .unset, .unset, .unset] [(.ref b141)]))
  refine own_astore X141 hx hby d_prog_57_method_1_code_220 rfl (Ls' := #[.val (.ref a), .val (.int p1), .val (.int p2), .val (.int p3), .val (.ref li), .val (.int (0 : Int32)), .val (.ref b3), .val (.ref b16), .val (.ref b141), .unset, .unset, .unset]) rfl (pc' := 222) rfl ?_
  refine own_iconst X141 hx hby d_prog_57_method_1_code_222 (v := (1 : Int32)) rfl (pc' := 223) rfl ?_
  refine own_istore X141 hx hby d_prog_57_method_1_code_223  (Ls' := #[.val (.ref a), .val (.int p1), .val (.int p2), .val (.int p3), .val (.ref li), .val (.int (0 : Int32)), .val (.ref b3), .val (.ref b16), .val (.ref b141), .val (.int (1 : Int32)), .unset, .unset]) rfl (pc' := 225) rfl ?_
  have LP225 : ∀ (d : Nat) (T : State) (h : Heap) (locs : List Loc) (j : Int32), Stand p l e ({ frames := 3, cells := 14, slots := 60, locals := 100 } : Room) s m #[(.ref a), (.int p1), (.int p2), (.int p3), (.ref li)] below meth c T locs 10 56 → T.heap = h → Fr n0 locs → Keep h141 h [b141] → IA Z h b141 (p1 + (1 : Int32)) → 1 ≤ j.toInt → j.toInt + d = p1.toInt + 1 → GoP p e below Φ (T.setTop (mkF m 225 #[.val (.ref a), .val (.int p1), .val (.int p2), .val (.int p3), .val (.ref li), .val (.int (0 : Int32)), .val (.ref b3), .val (.ref b16), .val (.ref b141), .val (.int j), .unset, .unset] [])) := by
    intro d
    induction d with
    | zero =>
      intro T h locs j X eT N KL IL g1 g2
      have E156_a := E142_a.keep KL 
      have F157_graph := F143_graph.keep KL (ninS ne_a_b141 nin0)
      have F158_firstThruNode := F145_firstThruNode.keep KL (ninS ne_a_b141 nin0)
      have F159_capacity := F148_capacity.keep KL (ninS ne_a_b141 nin0)
      have F160_freeFlowTime := F149_freeFlowTime.keep KL (ninS ne_a_b141 nin0)
      have F161_b := F150_b.keep KL (ninS ne_a_b141 nin0)
      have F162_power := F151_power.keep KL (ninS ne_a_b141 nin0)
      have E163_gr := E152_gr.keep KL 
      have F164_firstArc := F153_firstArc.keep KL (ninS ne_gr_b141 nin0)
      have I165_fa := I154_fa.keep KL (ninS ne_fa_b141 nin0)
      have KZ225 : Keep h0 h [a] := K141.trans KL (allS (Or.inr sz_b141) all0)
      have ZZ225 : n0 ≤ h.size := Nat.le_trans Z141 KL.1
      refine own_iload X hx hby d_prog_57_method_1_code_225 rfl (pc' := 227) rfl ?_
      refine own_iloadN X hx hby d_prog_57_method_1_code_227 rfl (pc' := 228) rfl ?_
      refine own_icmpY X hx hby d_prog_57_method_1_code_228 (tlt (own_ltI (by omega))).2.2.1 (by decide) (pc' := 251) (by decide) ?_
      refine own_aloadN X hx hby d_prog_57_method_1_code_251 rfl rfl (pc' := 252) rfl ?_
      refine own_iload X hx hby d_prog_57_method_1_code_252 rfl (pc' := 254) rfl ?_
      obtain ⟨T166, h166, k166, X166, e166, E166, A166, st166⟩ := newP X hx hZ (own_w hw 84 rfl) eT (g := (mkF m 254 #[.val (.ref a), .val (.int p1), .val (.int p2), .val (.int p3), .val (.ref li), .val (.int (0 : Int32)), .val (.ref b3), .val (.ref b16), .val (.ref b141), .val (.int j), .unset, .unset] [(.int (0 : Int32)), (.ref a)])) rfl (hb hby d_prog_57_method_1_code_254) rfl (by decide) (cap := 0) (by decide) (by decide) (by decide) (by decide)
      obtain ⟨b166, g166⟩ : ∃ z, z = h.size := ⟨_, rfl⟩
      have ne_a_b166 : a ≠ b166 := Nat.ne_of_lt (g166 ▸ E156_a.lt)
      have E167_a := E156_a.ext E166
      have F168_graph := F157_graph.ext E166
      have F169_firstThruNode := F158_firstThruNode.ext E166
      have F170_capacity := F159_capacity.ext E166
      have F171_freeFlowTime := F160_freeFlowTime.ext E166
      have F172_b := F161_b.ext E166
      have F173_power := F162_power.ext E166
      have Z166 : n0 ≤ h166.size := Nat.le_trans ZZ225 E166.1
      have n0_b166 : n0 ≤ b166 := g166 ▸ ZZ225
      have sz_b166 : h0.size ≤ b166 := g166 ▸ KZ225.1
      have K166 : Keep h0 h166 [a] := KZ225.ext E166
      rw [← g166] at A166 st166
      refine own_step st166 ?_
      have V166 : AV Z h166 b166 .double [] := AV.new A166 (by decide)
      show GoP p e below Φ (T166.setTop (mkF m 256 #[.val (.ref a), .val (.int p1), .val (.int p2), .val (.int p3), .val (.ref li), .val (.int (0 : Int32)), .val (.ref b3), .val (.ref b16), .val (.ref b141), .val (.int j), .unset, .unset] [(.ref b166), (.ref a)]))
      obtain ⟨T174, h174, X174, e174, W174, st174⟩ := putF X166 hx hZ hown (host := "") (Or.inl (own_w hw 85 rfl)) Via.refl e166 F170_capacity E167_a (Or.inr ⟨(own_w hw 86 rfl), rfl, hnm⟩) (own_w hw 2 rfl) (ty := (.array .double)) (by decide) rfl rfl (g := (mkF m 256 #[.val (.ref a), .val (.int p1), .val (.int p2), .val (.int p3), .val (.ref li), .val (.int (0 : Int32)), .val (.ref b3), .val (.ref b16), .val (.ref b141), .val (.int j), .unset, .unset] [(.ref b166), (.ref a)])) rfl rfl (hb hby d_prog_57_method_1_code_256)
      refine own_step st174 ?_
      have E175_a := E167_a.wr W174
      have F176_graph := F168_graph.other W174 (Or.inr (slot_ne (Or.inr (own_w hw 70 rfl)) (Or.inr (own_w hw 86 rfl)) (by decide) (t := (.object "com/example/wayfold/wayfold/Graph")) (t' := (.array .double)) (by decide) (by decide)))
      have F177_firstThruNode := F169_firstThruNode.other W174 (Or.inr (slot_ne (Or.inr (own_w hw 74 rfl)) (Or.inr (own_w hw 86 rfl)) (by decide) (t := .int) (t' := (.array .double)) (by decide) (by decide)))
      have F178_capacity := F170_capacity.same W174
      have F179_freeFlowTime := F171_freeFlowTime.other W174 (Or.inr (slot_ne (Or.inr (own_w hw 88 rfl)) (Or.inr (own_w hw 86 rfl)) (by decide) (t := (.array .double)) (t' := (.array .double)) (by decide) (by decide)))
      have F180_b := F172_b.other W174 (Or.inr (slot_ne (Or.inr (own_w hw 90 rfl)) (Or.inr (own_w hw 86 rfl)) (by decide) (t := (.array .double)) (t' := (.array .double)) (by decide) (by decide)))
      have F181_power := F173_power.other W174 (Or.inr (slot_ne (Or.inr (own_w hw 92 rfl)) (Or.inr (own_w hw 86 rfl)) (by decide) (t := (.array .double)) (t' := (.array .double)) (by decide) (by decide)))
      have V182_b166 := V166.other W174 (Ne.symm ne_a_b166)
      have Z174 : n0 ≤ h174.size := by rw [W174.size]; exact Z166
      have N174 := Fr.snoc X174 N n0_a
      have K174 : Keep h0 h174 [a] := K166.wr W174 (Or.inl (List.mem_of_getElem? (i := 0) rfl))
      show GoP p e below Φ (T174.setTop (mkF m 259 #[.val (.ref a), .val (.int p1), .val (.int p2), .val (.int p3), .val (.ref li), .val (.int (0 : Int32)), .val (.ref b3), .val (.ref b16), .val (.ref b141), .val (.int j), .unset, .unset] []))
      refine own_aloadN X174 hx hby d_prog_57_method_1_code_259 rfl rfl (pc' := 260) rfl ?_
      refine own_iload X174 hx hby d_prog_57_method_1_code_260 rfl (pc' := 262) rfl ?_
      obtain ⟨T183, h183, k183, X183, e183, E183, A183, st183⟩ := newP X174 hx hZ (own_w hw 84 rfl) e174 (g := (mkF m 262 #[.val (.ref a), .val (.int p1), .val (.int p2), .val (.int p3), .val (.ref li), .val (.int (0 : Int32)), .val (.ref b3), .val (.ref b16), .val (.ref b141), .val (.int j), .unset, .unset] [(.int (0 : Int32)), (.ref a)])) rfl (hb hby d_prog_57_method_1_code_262) rfl (by decide) (cap := 0) (by decide) (by decide) (by decide) (by decide)
      obtain ⟨b183, g183⟩ : ∃ z, z = h174.size := ⟨_, rfl⟩
      have ne_a_b183 : a ≠ b183 := Nat.ne_of_lt (g183 ▸ E175_a.lt)
      have ne_b166_b183 : b166 ≠ b183 := Nat.ne_of_lt (g183 ▸ V182_b166.lt)
      have E184_a := E175_a.ext E183
      have F185_graph := F176_graph.ext E183
      have F186_firstThruNode := F177_firstThruNode.ext E183
      have F187_capacity := F178_capacity.ext E183
      have F188_freeFlowTime := F179_freeFlowTime.ext E183
      have F189_b := F180_b.ext E183
      have F190_power := F181_power.ext E183
      have V191_b166 := V182_b166.ext E183
      have Z183 : n0 ≤ h183.size := Nat.le_trans Z174 E183.1
      have n0_b183 : n0 ≤ b183 := g183 ▸ Z174
      have sz_b183 : h0.size ≤ b183 := g183 ▸ K174.1
      have K183 : Keep h0 h183 [a] := K174.ext E183
      rw [← g183] at A183 st183
      refine own_step st183 ?_
      have V183 : AV Z h183 b183 .double [] := AV.new A183 (by decide)
      show GoP p e below Φ (T183.setTop (mkF m 264 #[.val (.ref a), .val (.int p1), .val (.int p2), .val (.int p3), .val (.ref li), .val (.int (0 : Int32)), .val (.ref b3), .val (.ref b16), .val (.ref b141), .val (.int j), .unset, .unset] [(.ref b183), (.ref a)]))
      obtain ⟨T192, h192, X192, e192, W192, st192⟩ := putF X183 hx hZ hown (host := "") (Or.inl (own_w hw 87 rfl)) Via.refl e183 F188_freeFlowTime E184_a (Or.inr ⟨(own_w hw 88 rfl), rfl, hnm⟩) (own_w hw 2 rfl) (ty := (.array .double)) (by decide) rfl rfl (g := (mkF m 264 #[.val (.ref a), .val (.int p1), .val (.int p2), .val (.int p3), .val (.ref li), .val (.int (0 : Int32)), .val (.ref b3), .val (.ref b16), .val (.ref b141), .val (.int j), .unset, .unset] [(.ref b183), (.ref a)])) rfl rfl (hb hby d_prog_57_method_1_code_264)
      refine own_step st192 ?_
      have E193_a := E184_a.wr W192
      have F194_graph := F185_graph.other W192 (Or.inr (slot_ne (Or.inr (own_w hw 70 rfl)) (Or.inr (own_w hw 88 rfl)) (by decide) (t := (.object "com/example/wayfold/wayfold/Graph")) (t' := (.array .double)) (by decide) (by decide)))
      have F195_firstThruNode := F186_firstThruNode.other W192 (Or.inr (slot_ne (Or.inr (own_w hw 74 rfl)) (Or.inr (own_w hw 88 rfl)) (by decide) (t := .int) (t' := (.array .double)) (by decide) (by decide)))
      have F196_capacity := F187_capacity.other W192 (Or.inr (slot_ne (Or.inr (own_w hw 86 rfl)) (Or.inr (own_w hw 88 rfl)) (by decide) (t := (.array .double)) (t' := (.array .double)) (by decide) (by decide)))
      have F197_freeFlowTime := F188_freeFlowTime.same W192
      have F198_b := F189_b.other W192 (Or.inr (slot_ne (Or.inr (own_w hw 90 rfl)) (Or.inr (own_w hw 88 rfl)) (by decide) (t := (.array .double)) (t' := (.array .double)) (by decide) (by decide)))
      have F199_power := F190_power.other W192 (Or.inr (slot_ne (Or.inr (own_w hw 92 rfl)) (Or.inr (own_w hw 88 rfl)) (by decide) (t := (.array .double)) (t' := (.array .double)) (by decide) (by decide)))
      have V200_b166 := V191_b166.other W192 (Ne.symm ne_a_b166)
      have V201_b183 := V183.other W192 (Ne.symm ne_a_b183)
      have Z192 : n0 ≤ h192.size := by rw [W192.size]; exact Z183
      have N192 := Fr.snoc X192 N174 n0_a
      have K192 : Keep h0 h192 [a] := K183.wr W192 (Or.inl (List.mem_of_getElem? (i := 0) rfl))
      show GoP p e below Φ (T192.setTop (mkF m 267 #[.val (.ref a), .val (.int p1), .val (.int p2), .val (.int p3), .val (.ref li), .val (.int (0 : Int32)), .val (.ref b3), .val (.ref b16), .val (.ref b141), .val (.int j), .unset, .unset] []))
      refine own_aloadN X192 hx hby d_prog_57_method_1_code_267 rfl rfl (pc' := 268) rfl ?_
      refine own_iload X192 hx hby d_prog_57_method_1_code_268 rfl (pc' := 270) rfl ?_
      obtain ⟨T202, h202, k202, X202, e202, E202, A202, st202⟩ := newP X192 hx hZ (own_w hw 84 rfl) e192 (g := (mkF m 270 #[.val (.ref a), .val (.int p1), .val (.int p2), .val (.int p3), .val (.ref li), .val (.int (0 : Int32)), .val (.ref b3), .val (.ref b16), .val (.ref b141), .val (.int j), .unset, .unset] [(.int (0 : Int32)), (.ref a)])) rfl (hb hby d_prog_57_method_1_code_270) rfl (by decide) (cap := 0) (by decide) (by decide) (by decide) (by decide)
      obtain ⟨b202, g202⟩ : ∃ z, z = h192.size := ⟨_, rfl⟩
      have ne_a_b202 : a ≠ b202 := Nat.ne_of_lt (g202 ▸ E193_a.lt)
      have ne_b166_b202 : b166 ≠ b202 := Nat.ne_of_lt (g202 ▸ V200_b166.lt)
      have ne_b183_b202 : b183 ≠ b202 := Nat.ne_of_lt (g202 ▸ V201_b183.lt)
      have E203_a := E193_a.ext E202
      have F204_graph := F194_graph.ext E202
      have F205_firstThruNode := F195_firstThruNode.ext E202
      have F206_capacity := F196_capacity.ext E202
      have F207_freeFlowTime := F197_freeFlowTime.ext E202
      have F208_b := F198_b.ext E202
      have F209_power := F199_power.ext E202
      have V210_b166 := V200_b166.ext E202
      have V211_b183 := V201_b183.ext E202
      have Z202 : n0 ≤ h202.size := Nat.le_trans Z192 E202.1
      have n0_b202 : n0 ≤ b202 := g202 ▸ Z192
      have sz_b202 : h0.size ≤ b202 := g202 ▸ K192.1
      have K202 : Keep h0 h202 [a] := K192.ext E202
      rw [← g202] at A202 st202
      refine own_step st202 ?_
      have V202 : AV Z h202 b202 .double [] := AV.new A202 (by decide)
      show GoP p e below Φ (T202.setTop (mkF m 272 #[.val (.ref a), .val (.int p1), .val (.int p2), .val (.int p3), .val (.ref li), .val (.int (0 : Int32)), .val (.ref b3), .val (.ref b16), .val (.ref b141), .val (.int j), .unset, .unset] [(.ref b202), (.ref a)]))
      obtain ⟨T212, h212, X212, e212, W212, st212⟩ := putF X202 hx hZ hown (host := "") (Or.inl (own_w hw 89 rfl)) Via.refl e202 F208_b E203_a (Or.inr ⟨(own_w hw 90 rfl), rfl, hnm⟩) (own_w hw 2 rfl) (ty := (.array .double)) (by decide) rfl rfl (g := (mkF m 272 #[.val (.ref a), .val (.int p1), .val (.int p2), .val (.int p3), .val (.ref li), .val (.int (0 : Int32)), .val (.ref b3), .val (.ref b16), .val (.ref b141), .val (.int j), .unset, .unset] [(.ref b202), (.ref a)])) rfl rfl (hb hby d_prog_57_method_1_code_272)
      refine own_step st212 ?_
      have E213_a := E203_a.wr W212
      have F214_graph := F204_graph.other W212 (Or.inr (slot_ne (Or.inr (own_w hw 70 rfl)) (Or.inr (own_w hw 90 rfl)) (by decide) (t := (.object "com/example/wayfold/wayfold/Graph")) (t' := (.array .double)) (by decide) (by decide)))
      have F215_firstThruNode := F205_firstThruNode.other W212 (Or.inr (slot_ne (Or.inr (own_w hw 74 rfl)) (Or.inr (own_w hw 90 rfl)) (by decide) (t := .int) (t' := (.array .double)) (by decide) (by decide)))
      have F216_capacity := F206_capacity.other W212 (Or.inr (slot_ne (Or.inr (own_w hw 86 rfl)) (Or.inr (own_w hw 90 rfl)) (by decide) (t := (.array .double)) (t' := (.array .double)) (by decide) (by decide)))
      have F217_freeFlowTime := F207_freeFlowTime.other W212 (Or.inr (slot_ne (Or.inr (own_w hw 88 rfl)) (Or.inr (own_w hw 90 rfl)) (by decide) (t := (.array .double)) (t' := (.array .double)) (by decide) (by decide)))
      have F218_b := F208_b.same W212
      have F219_power := F209_power.other W212 (Or.inr (slot_ne (Or.inr (own_w hw 92 rfl)) (Or.inr (own_w hw 90 rfl)) (by decide) (t := (.array .double)) (t' := (.array .double)) (by decide) (by decide)))
      have V220_b166 := V210_b166.other W212 (Ne.symm ne_a_b166)
      have V221_b183 := V211_b183.other W212 (Ne.symm ne_a_b183)
      have V222_b202 := V202.other W212 (Ne.symm ne_a_b202)
      have Z212 : n0 ≤ h212.size := by rw [W212.size]; exact Z202
      have N212 := Fr.snoc X212 N192 n0_a
      have K212 : Keep h0 h212 [a] := K202.wr W212 (Or.inl (List.mem_of_getElem? (i := 0) rfl))
      show GoP p e below Φ (T212.setTop (mkF m 275 #[.val (.ref a), .val (.int p1), .val (.int p2), .val (.int p3), .val (.ref li), .val (.int (0 : Int32)), .val (.ref b3), .val (.ref b16), .val (.ref b141), .val (.int j), .unset, .unset] []))
      refine own_aloadN X212 hx hby d_prog_57_method_1_code_275 rfl rfl (pc' := 276) rfl ?_
      refine own_iload X212 hx hby d_prog_57_method_1_code_276 rfl (pc' := 278) rfl ?_
      obtain ⟨T223, h223, k223, X223, e223, E223, A223, st223⟩ := newP X212 hx hZ (own_w hw 84 rfl) e212 (g := (mkF m 278 #[.val (.ref a), .val (.int p1), .val (.int p2), .val (.int p3), .val (.ref li), .val (.int (0 : Int32)), .val (.ref b3), .val (.ref b16), .val (.ref b141), .val (.int j), .unset, .unset] [(.int (0 : Int32)), (.ref a)])) rfl (hb hby d_prog_57_method_1_code_278) rfl (by decide) (cap := 0) (by decide) (by decide) (by decide) (by decide)
      obtain ⟨b223, g223⟩ : ∃ z, z = h212.size := ⟨_, rfl⟩
      have ne_a_b223 : a ≠ b223 := Nat.ne_of_lt (g223 ▸ E213_a.lt)
      have ne_b166_b223 : b166 ≠ b223 := Nat.ne_of_lt (g223 ▸ V220_b166.lt)
      have ne_b183_b223 : b183 ≠ b223 := Nat.ne_of_lt (g223 ▸ V221_b183.lt)
      have ne_b202_b223 : b202 ≠ b223 := Nat.ne_of_lt (g223 ▸ V222_b202.lt)
      have E224_a := E213_a.ext E223
      have F225_graph := F214_graph.ext E223
      have F226_firstThruNode := F215_firstThruNode.ext E223
      have F227_capacity := F216_capacity.ext E223
      have F228_freeFlowTime := F217_freeFlowTime.ext E223
      have F229_b := F218_b.ext E223
      have F230_power := F219_power.ext E223
      have V231_b166 := V220_b166.ext E223
      have V232_b183 := V221_b183.ext E223
      have V233_b202 := V222_b202.ext E223
      have Z223 : n0 ≤ h223.size := Nat.le_trans Z212 E223.1
      have n0_b223 : n0 ≤ b223 := g223 ▸ Z212
      have sz_b223 : h0.size ≤ b223 := g223 ▸ K212.1
      have K223 : Keep h0 h223 [a] := K212.ext E223
      rw [← g223] at A223 st223
      refine own_step st223 ?_
      have V223 : AV Z h223 b223 .double [] := AV.new A223 (by decide)
      show GoP p e below Φ (T223.setTop (mkF m 280 #[.val (.ref a), .val (.int p1), .val (.int p2), .val (.int p3), .val (.ref li), .val (.int (0 : Int32)), .val (.ref b3), .val (.ref b16), .val (.ref b141), .val (.int j), .unset, .unset] [(.ref b223), (.ref a)]))
      obtain ⟨T234, h234, X234, e234, W234, st234⟩ := putF X223 hx hZ hown (host := "") (Or.inl (own_w hw 91 rfl)) Via.refl e223 F230_power E224_a (Or.inr ⟨(own_w hw 92 rfl), rfl, hnm⟩) (own_w hw 2 rfl) (ty := (.array .double)) (by decide) rfl rfl (g := (mkF m 280 #[.val (.ref a), .val (.int p1), .val (.int p2), .val (.int p3), .val (.ref li), .val (.int (0 : Int32)), .val (.ref b3), .val (.ref b16), .val (.ref b141), .val (.int j), .unset, .unset] [(.ref b223), (.ref a)])) rfl rfl (hb hby d_prog_57_method_1_code_280)
      refine own_step st234 ?_
      have E235_a := E224_a.wr W234
      have F236_graph := F225_graph.other W234 (Or.inr (slot_ne (Or.inr (own_w hw 70 rfl)) (Or.inr (own_w hw 92 rfl)) (by decide) (t := (.object "com/example/wayfold/wayfold/Graph")) (t' := (.array .double)) (by decide) (by decide)))
      have F237_firstThruNode := F226_firstThruNode.other W234 (Or.inr (slot_ne (Or.inr (own_w hw 74 rfl)) (Or.inr (own_w hw 92 rfl)) (by decide) (t := .int) (t' := (.array .double)) (by decide) (by decide)))
      have F238_capacity := F227_capacity.other W234 (Or.inr (slot_ne (Or.inr (own_w hw 86 rfl)) (Or.inr (own_w hw 92 rfl)) (by decide) (t := (.array .double)) (t' := (.array .double)) (by decide) (by decide)))
      have F239_freeFlowTime := F228_freeFlowTime.other W234 (Or.inr (slot_ne (Or.inr (own_w hw 88 rfl)) (Or.inr (own_w hw 92 rfl)) (by decide) (t := (.array .double)) (t' := (.array .double)) (by decide) (by decide)))
      have F240_b := F229_b.other W234 (Or.inr (slot_ne (Or.inr (own_w hw 90 rfl)) (Or.inr (own_w hw 92 rfl)) (by decide) (t := (.array .double)) (t' := (.array .double)) (by decide) (by decide)))
      have F241_power := F230_power.same W234
      have V242_b166 := V231_b166.other W234 (Ne.symm ne_a_b166)
      have V243_b183 := V232_b183.other W234 (Ne.symm ne_a_b183)
      have V244_b202 := V233_b202.other W234 (Ne.symm ne_a_b202)
      have V245_b223 := V223.other W234 (Ne.symm ne_a_b223)
      have Z234 : n0 ≤ h234.size := by rw [W234.size]; exact Z223
      have N234 := Fr.snoc X234 N212 n0_a
      have K234 : Keep h0 h234 [a] := K223.wr W234 (Or.inl (List.mem_of_getElem? (i := 0) rfl))
      show GoP p e below Φ (T234.setTop (mkF m 283 #[.val (.ref a), .val (.int p1), .val (.int p2), .val (.int p3), .val (.ref li), .val (.int (0 : Int32)), .val (.ref b3), .val (.ref b16), .val (.ref b141), .val (.int j), .unset, .unset] []))
      refine own_iconst X234 hx hby d_prog_57_method_1_code_283 (v := (0 : Int32)) rfl (pc' := 284) rfl ?_
      refine own_istore X234 hx hby d_prog_57_method_1_code_284  (Ls' := #[.val (.ref a), .val (.int p1), .val (.int p2), .val (.int p3), .val (.ref li), .val (.int (0 : Int32)), .val (.ref b3), .val (.ref b16), .val (.ref b141), .val (.int (0 : Int32)), .unset, .unset]) rfl (pc' := 286) rfl ?_
      refine own_iload X234 hx hby d_prog_57_method_1_code_286 rfl (pc' := 288) rfl ?_
      refine own_iload X234 hx hby d_prog_57_method_1_code_288 rfl (pc' := 290) rfl ?_
      refine own_icmpY X234 hx hby d_prog_57_method_1_code_290 (flt (by decide)).2.1 (by decide) (pc' := 385) (by decide) ?_
      exact own_ret0 X234 hx hby fin hret d_prog_57_method_1_code_385 (by decide) (by decide) (by rw [e234]; exact ⟨rfl, N234, K234, E235_a, F237_firstThruNode⟩)
    | succ d ih =>
      intro T h locs j X eT N KL IL g1 g2
      have E246_a := E142_a.keep KL 
      have F247_graph := F143_graph.keep KL (ninS ne_a_b141 nin0)
      have F248_firstThruNode := F145_firstThruNode.keep KL (ninS ne_a_b141 nin0)
      have F249_capacity := F148_capacity.keep KL (ninS ne_a_b141 nin0)
      have F250_freeFlowTime := F149_freeFlowTime.keep KL (ninS ne_a_b141 nin0)
      have F251_b := F150_b.keep KL (ninS ne_a_b141 nin0)
      have F252_power := F151_power.keep KL (ninS ne_a_b141 nin0)
      have E253_gr := E152_gr.keep KL 
      have F254_firstArc := F153_firstArc.keep KL (ninS ne_gr_b141 nin0)
      have I255_fa := I154_fa.keep KL (ninS ne_fa_b141 nin0)
      have q1 := own_j1 g1 (by omega) hn2
      refine own_iload X hx hby d_prog_57_method_1_code_225 rfl (pc' := 227) rfl ?_
      refine own_iloadN X hx hby d_prog_57_method_1_code_227 rfl (pc' := 228) rfl ?_
      refine own_icmpN X hx hby d_prog_57_method_1_code_228 (flt (own_geI (by omega))).2.2.1 (pc' := 231) rfl ?_
      refine own_aload X hx hby d_prog_57_method_1_code_231 rfl rfl (pc' := 233) rfl ?_
      refine own_iload X hx hby d_prog_57_method_1_code_233 rfl (pc' := 235) rfl ?_
      refine own_aloadN X hx hby d_prog_57_method_1_code_235 rfl rfl (pc' := 236) rfl ?_
      obtain ⟨T256, X256, e256, st256⟩ := getF X hx hZ hown (host := "") (Or.inl (own_w hw 69 rfl)) Via.refl eT F247_graph (g := (mkF m 236 #[.val (.ref a), .val (.int p1), .val (.int p2), .val (.int p3), .val (.ref li), .val (.int (0 : Int32)), .val (.ref b3), .val (.ref b16), .val (.ref b141), .val (.int j), .unset, .unset] [(.ref a), (.int j), (.ref b141)])) rfl rfl (hb hby d_prog_57_method_1_code_236)
      refine own_step st256 ?_
      show GoP p e below Φ (T256.setTop (mkF m 239 #[.val (.ref a), .val (.int p1), .val (.int p2), .val (.int p3), .val (.ref li), .val (.int (0 : Int32)), .val (.ref b3), .val (.ref b16), .val (.ref b141), .val (.int j), .unset, .unset] [(.ref gr), (.int j), (.ref b141)]))
      refine own_iload X256 hx hby d_prog_57_method_1_code_239 rfl (pc' := 241) rfl ?_
      refine own_callV X256 hx hby hZ (by exact hml) hown (own_w hw 79 rfl) (own_w hw 80 rfl) (own_w hw 82 rfl) (own_w hw 81 rfl) (own_w hw 49 rfl) (own_w hw 83 rfl) (by decide) e256 2 (by decide) (by decide) (by decide) (by decide) (argsL := [(.int j)]) (rest := [(.int j), (.ref b141)]) (lenOf pd__I_I rfl) rfl (Nat.le_of_eq rfl) E253_gr (rmFA l Z a0 hw gr fa j (p1 + (2 : Int32)) h F254_firstArc I255_fa ⟨own_geI (by rw [own_z0]; omega), own_ltI (by omega)⟩) d_prog_57_method_1_code_241 (pc' := 244) rfl ?_
      intro v257 T257 L257 X257 hQ257
      obtain ⟨w257, rfl, rfl, e257⟩ := hQ257
      rw [List.append_nil] at X257
      replace e257 : T257.heap = h := e257
      show GoP p e below Φ (T257.setTop (mkF m 244 #[.val (.ref a), .val (.int p1), .val (.int p2), .val (.int p3), .val (.ref li), .val (.int (0 : Int32)), .val (.ref b3), .val (.ref b16), .val (.ref b141), .val (.int j), .unset, .unset] [(.int w257), (.int j), (.ref b141)]))
      refine own_iastoreA X257 hx hby hZ e257 IL ⟨own_geI (by rw [own_z0]; omega), own_ltI (by omega)⟩ d_prog_57_method_1_code_244 (pc' := 245) rfl ?_
      intro T258 h258 X258 e258 W258 I258
      have E259_a := E246_a.wr W258
      have F260_graph := F247_graph.other W258 (Or.inl ne_a_b141)
      have F261_firstThruNode := F248_firstThruNode.other W258 (Or.inl ne_a_b141)
      have F262_capacity := F249_capacity.other W258 (Or.inl ne_a_b141)
      have F263_freeFlowTime := F250_freeFlowTime.other W258 (Or.inl ne_a_b141)
      have F264_b := F251_b.other W258 (Or.inl ne_a_b141)
      have F265_power := F252_power.other W258 (Or.inl ne_a_b141)
      have E266_gr := E253_gr.wr W258
      have F267_firstArc := F254_firstArc.other W258 (Or.inl ne_gr_b141)
      have I268_fa := I255_fa.other W258 ne_fa_b141
      have N258 := Fr.snoc X258 N n0_b141
      have KL258 := KL.wr W258 (Or.inl (List.mem_of_getElem? (i := 0) rfl))
      refine own_iinc X258 hx hby d_prog_57_method_1_code_245 rfl (v := (1 : Int32)) rfl (Ls' := #[.val (.ref a), .val (.int p1), .val (.int p2), .val (.int p3), .val (.ref li), .val (.int (0 : Int32)), .val (.ref b3), .val (.ref b16), .val (.ref b141), .val (.int (j + (1 : Int32))), .unset, .unset]) rfl (pc' := 248) rfl ?_
      refine own_goto X258 hx hby d_prog_57_method_1_code_248 (by decide) (pc' := 225) (by decide) ?_
      exact ih T258 h258 _ (j + (1 : Int32)) X258 e258 N258 KL258 I258 (by omega) (by omega)
  exact LP225 p1.toInt.toNat T141 h141 _ (1 : Int32) X141 e141 N126 (Keep.refl _ _) I141 (by decide) (by rw [own_z1]; omega)
theorem own_z3 : (3 : Int32).toInt = 3 := by decide
theorem own_nn (p : Int32) : 1 ≤ ((1 : Int32) + (p &&& (15 : Int32))).toInt ∧ ((1 : Int32) + (p &&& (15 : Int32))).toInt ≤ 16 := by
  have a := c_mask p 15 4 (by decide) (by decide)
  have b : ((1 : Int32) + (p &&& (15 : Int32))).toInt = 1 + (p &&& (15 : Int32)).toInt := own_add32 (by rw [own_z1]) (by omega) (by omega)
  omega
theorem own_mx (p : Int32) : 0 ≤ (p &&& (2147483647 : Int32)).toInt := by
  have a := c_mask p 2147483647 31 (by decide) (by decide)
  omega
theorem own_md {x y : Int32} (h0 : 0 ≤ x.toInt) (h1 : 0 < y.toInt) : 0 ≤ (x % y).toInt ∧ (x % y).toInt < y.toInt := by
  have a := (c_iremV x y).1 h0 h1
  omega
theorem own_pos {y : Int32} (h : 0 < y.toInt) : y ≠ 0 := fun q => by rw [q, own_z0] at h; omega
theorem own_one {x n : Int32} (h0 : 0 ≤ x.toInt) (h1 : x.toInt < n.toInt) (h2 : n.toInt ≤ 16) : ((1 : Int32) + x).toInt = 1 + x.toInt := own_add32 (by rw [own_z1]) (by omega) (by omega)
theorem own_lohi (a b : Int32) : (if b < a then b else a).toInt ≤ (if a < b then b else a).toInt := by
  split <;> split <;> simp only [Int32.lt_iff_toInt_lt] at * <;> omega
theorem ef_rm0 (m : MethodId) (x0 : Int32) (x1 : Int32) (x2 : Int32) (x3 : Int32) (x4 : Int32) (x5 : Int32) : entryFrame m #[(.int x0), (.int x1), (.int x2), (.int x3), (.int x4), (.int x5)] maxLocals = mkF m 0 #[.val (.int x0), .val (.int x1), .val (.int x2), .val (.int x3), .val (.int x4), .val (.int x5), .unset, .unset, .unset, .unset, .unset, .unset, .unset, .unset, .unset, .unset, .unset] [] := by first | (simp [entryFrame, mkF, argsToLocals, Value.category, maxLocals]; done) | rfl
theorem pn_com_example_wayfold_wayfold_TrafficNetworkThruPinLaw : plainName "com/example/wayfold/wayfold/TrafficNetworkThruPinLaw" = true := by first | (simp [plainName, overriddenIn]; done) | decide +kernel
theorem pd__IIILjava_util_List__V : parseMethodDescriptor "(IIILjava/util/List;)V" = some ⟨[.int, .int, .int, (.object "java/util/List")], none⟩ := by decide +kernel
theorem pd__II_I : parseMethodDescriptor "(II)I" = some ⟨[.int, .int], some .int⟩ := by decide +kernel
theorem pd__I_Z : parseMethodDescriptor "(I)Z" = some ⟨[.int], some .boolean⟩ := by decide +kernel
set_option maxRecDepth 65536 in
set_option maxHeartbeats 40000000 in
theorem rm0 (l : Launch) (Z : State) (a0 : Array Value) (hw : ∀ d ∈ tables_1, d.before a0 Z = true) (p1 p2 p3 p4 p5 p6 : Int32) (aD : Addr) (n0 : Nat) (h0 : Heap) (Z0 : n0 ≤ h0.size) (S : Sta Z h0 "java/util/ArrayList" "DEFAULTCAPACITY_EMPTY_ELEMENTDATA" "[Ljava/lang/Object;" (.ref aD)) : Con l Z x code maxLocals ret tables_1 room_1 #[(.int p1), (.int p2), (.int p3), (.int p4), (.int p5), (.int p6)] h0 (fun v h L => v = some (.int 1) ∧ Fr n0 L) := by
  refine Con.of (plainFor_of_name pn_com_example_wayfold_wayfold_TrafficNetworkThruPinLaw) ?_
  intro p e s m below meth c T X hx hby hml hown hnm hret eT hZ hsh Φ fin
  replace hown : s.vm.findClass "com/example/wayfold/wayfold/TrafficNetworkThruPinLaw" = some m.cls := hown
  replace hml : 17 = c.maxLocals := hml.symm
  refine own_step (fun t k => castTop (ef_rm0 m p1 p2 p3 p4 p5 p6) k) ?_
  replace hret : meth.sig.returnType = (some .boolean) := hret
  have N0 := Fr.nil n0
  refine own_iconst X hx hby at_0 (v := (1 : Int32)) rfl (pc' := 1) rfl ?_
  refine own_iloadN X hx hby at_1 rfl (pc' := 2) rfl ?_
  refine own_bipush X hx hby at_2 (v := (15 : Int32)) rfl (pc' := 4) rfl ?_
  refine own_iand X hx hby at_4 (pc' := 5) rfl ?_
  refine own_iadd X hx hby at_5 (pc' := 6) rfl ?_
  refine own_istore X hx hby at_6  (Ls' := #[.val (.int p1), .val (.int p2), .val (.int p3), .val (.int p4), .val (.int p5), .val (.int p6), .val (.int ((1 : Int32) + (p1 &&& (15 : Int32)))), .unset, .unset, .unset, .unset, .unset, .unset, .unset, .unset, .unset, .unset]) rfl (pc' := 8) rfl ?_
  obtain ⟨n, en, hn1, hn2⟩ : ∃ n : Int32, n = ((1 : Int32) + (p1 &&& (15 : Int32))) ∧ 1 ≤ n.toInt ∧ n.toInt ≤ 16 := ⟨_, rfl, own_nn p1⟩
  rw [← en]
  have e1 := own_n1 hn1 hn2
  have e3 : (n + (3 : Int32)).toInt = n.toInt + 3 := own_add32 (by rw [own_z3]) (by omega) (by omega)
  refine own_iloadN X hx hby at_8 rfl (pc' := 9) rfl ?_
  refine own_ldcI X hx hby hZ hown (own_w hw 0 rfl) at_9 (pc' := 11) rfl ?_
  refine own_iand X hx hby at_11 (pc' := 12) rfl ?_
  refine own_iload X hx hby at_12 rfl (pc' := 14) rfl ?_
  refine own_iconst X hx hby at_14 (v := (1 : Int32)) rfl (pc' := 15) rfl ?_
  refine own_iadd X hx hby at_15 (pc' := 16) rfl ?_
  refine own_irem X hx hby at_16 (own_pos (by omega)) (pc' := 17) rfl ?_
  refine own_istore X hx hby at_17  (Ls' := #[.val (.int p1), .val (.int p2), .val (.int p3), .val (.int p4), .val (.int p5), .val (.int p6), .val (.int n), .val (.int ((p2 &&& (2147483647 : Int32)) % (n + (1 : Int32)))), .unset, .unset, .unset, .unset, .unset, .unset, .unset, .unset, .unset]) rfl (pc' := 19) rfl ?_
  obtain ⟨z, ez, hz0, hz1⟩ : ∃ z : Int32, z = ((p2 &&& (2147483647 : Int32)) % (n + (1 : Int32))) ∧ 0 ≤ z.toInt ∧ z.toInt < (n + (1 : Int32)).toInt := ⟨_, rfl, own_md (own_mx p2) (by omega)⟩
  rw [← ez]
  refine own_iloadN X hx hby at_19 rfl (pc' := 20) rfl ?_
  refine own_ldcI X hx hby hZ hown (own_w hw 0 rfl) at_20 (pc' := 22) rfl ?_
  refine own_iand X hx hby at_22 (pc' := 23) rfl ?_
  refine own_istore X hx hby at_23  (Ls' := #[.val (.int p1), .val (.int p2), .val (.int p3), .val (.int p4), .val (.int p5), .val (.int p6), .val (.int n), .val (.int z), .val (.int (p3 &&& (2147483647 : Int32))), .unset, .unset, .unset, .unset, .unset, .unset, .unset, .unset]) rfl (pc' := 25) rfl ?_
  refine own_iload X hx hby at_25 rfl (pc' := 27) rfl ?_
  refine own_iconst X hx hby at_27 (v := (1 : Int32)) rfl (pc' := 28) rfl ?_
  refine own_iand X hx hby at_28 (pc' := 29) rfl ?_
  by_cases hc29_1 : (p6 &&& (1 : Int32)) = (0 : Int32)
  · refine own_ifY X hx hby at_29 ((if0 _ _).trans (teq hc29_1).1) (by decide) (pc' := 37) (by decide) ?_
    refine own_iload X hx hby at_37 rfl (pc' := 39) rfl ?_
    refine own_iload X hx hby at_39 rfl (pc' := 41) rfl ?_
    refine own_iconst X hx hby at_41 (v := (3 : Int32)) rfl (pc' := 42) rfl ?_
    refine own_iadd X hx hby at_42 (pc' := 43) rfl ?_
    refine own_irem X hx hby at_43 (own_pos (by omega)) (pc' := 44) rfl ?_
    refine own_istore X hx hby at_44  (Ls' := #[.val (.int p1), .val (.int p2), .val (.int p3), .val (.int p4), .val (.int p5), .val (.int p6), .val (.int n), .val (.int z), .val (.int (p3 &&& (2147483647 : Int32))), .val (.int ((p3 &&& (2147483647 : Int32)) % (n + (3 : Int32)))), .unset, .unset, .unset, .unset, .unset, .unset, .unset]) rfl (pc' := 46) rfl ?_
    obtain ⟨f, ef, hf⟩ : ∃ f : Int32, f = ((p3 &&& (2147483647 : Int32)) % (n + (3 : Int32))) ∧ 0 ≤ f.toInt := ⟨_, rfl, (own_md (own_mx p3) (by omega)).1⟩
    rw [← ef]
    obtain ⟨T2, h2, X2, e2, E2, A2, D2, -, st2⟩ := newO X hx hZ hown (own_w hw 1 rfl) (own_w hw 2 rfl) (own_w hw 3 rfl) eT (g := (mkF m 46 #[.val (.int p1), .val (.int p2), .val (.int p3), .val (.int p4), .val (.int p5), .val (.int p6), .val (.int n), .val (.int z), .val (.int (p3 &&& (2147483647 : Int32))), .val (.int f), .unset, .unset, .unset, .unset, .unset, .unset, .unset] [])) rfl (hb hby at_46) (by decide) (by decide)
    obtain ⟨b2, g2⟩ : ∃ z, z = h0.size := ⟨_, rfl⟩
    have S3_DEFAULTCAPACITY_EMPTY_ELEMENTDATA := S.ext E2
    have Z2 : n0 ≤ h2.size := Nat.le_trans Z0 E2.1
    have n0_b2 : n0 ≤ b2 := g2 ▸ Z0
    rw [← g2] at A2 D2 st2
    refine own_step st2 ?_
    have F2_graph : Fld Z h2 b2 "com/example/wayfold/wayfold/TrafficNetwork" "graph" "Lcom/example/wayfold/wayfold/Graph;" .null := D2 (Or.inr (own_w hw 70 rfl)) (ty := (.object "com/example/wayfold/wayfold/Graph")) (by decide)
    have F2_zoneCount : Fld Z h2 b2 "com/example/wayfold/wayfold/TrafficNetwork" "zoneCount" "I" (.int (0 : Int32)) := D2 (Or.inr (own_w hw 72 rfl)) (ty := .int) (by decide)
    have F2_firstThruNode : Fld Z h2 b2 "com/example/wayfold/wayfold/TrafficNetwork" "firstThruNode" "I" (.int (0 : Int32)) := D2 (Or.inr (own_w hw 74 rfl)) (ty := .int) (by decide)
    have F2_linkTail : Fld Z h2 b2 "com/example/wayfold/wayfold/TrafficNetwork" "linkTail" "[I" .null := D2 (Or.inr (own_w hw 76 rfl)) (ty := (.array .int)) (by decide)
    have F2_linkArc : Fld Z h2 b2 "com/example/wayfold/wayfold/TrafficNetwork" "linkArc" "[I" .null := D2 (Or.inr (own_w hw 78 rfl)) (ty := (.array .int)) (by decide)
    have F2_capacity : Fld Z h2 b2 "com/example/wayfold/wayfold/TrafficNetwork" "capacity" "[D" .null := D2 (Or.inr (own_w hw 86 rfl)) (ty := (.array .double)) (by decide)
    have F2_freeFlowTime : Fld Z h2 b2 "com/example/wayfold/wayfold/TrafficNetwork" "freeFlowTime" "[D" .null := D2 (Or.inr (own_w hw 88 rfl)) (ty := (.array .double)) (by decide)
    have F2_b : Fld Z h2 b2 "com/example/wayfold/wayfold/TrafficNetwork" "b" "[D" .null := D2 (Or.inr (own_w hw 90 rfl)) (ty := (.array .double)) (by decide)
    have F2_power : Fld Z h2 b2 "com/example/wayfold/wayfold/TrafficNetwork" "power" "[D" .null := D2 (Or.inr (own_w hw 92 rfl)) (ty := (.array .double)) (by decide)
    show GoP p e below Φ (T2.setTop (mkF m 49 #[.val (.int p1), .val (.int p2), .val (.int p3), .val (.int p4), .val (.int p5), .val (.int p6), .val (.int n), .val (.int z), .val (.int (p3 &&& (2147483647 : Int32))), .val (.int f), .unset, .unset, .unset, .unset, .unset, .unset, .unset] [(.ref b2)]))
    refine own_dup X2 hx hby at_49 rfl (pc' := 50) rfl ?_
    refine own_iload X2 hx hby at_50 rfl (pc' := 52) rfl ?_
    refine own_iload X2 hx hby at_52 rfl (pc' := 54) rfl ?_
    refine own_iload X2 hx hby at_54 rfl (pc' := 56) rfl ?_
    obtain ⟨T4, h4, X4, e4, E4, A4, D4, -, st4⟩ := newO X2 hx hZ hown (own_w hw 4 rfl) (own_w hw 5 rfl) (own_w hw 6 rfl) e2 (g := (mkF m 56 #[.val (.int p1), .val (.int p2), .val (.int p3), .val (.int p4), .val (.int p5), .val (.int p6), .val (.int n), .val (.int z), .val (.int (p3 &&& (2147483647 : Int32))), .val (.int f), .unset, .unset, .unset, .unset, .unset, .unset, .unset] [(.int f), (.int z), (.int n), (.ref b2), (.ref b2)])) rfl (hb hby at_56) (by decide) (by decide)
    obtain ⟨b4, g4⟩ : ∃ z, z = h2.size := ⟨_, rfl⟩
    have ne_b2_b4 : b2 ≠ b4 := Nat.ne_of_lt (g4 ▸ A2.lt)
    have S5_DEFAULTCAPACITY_EMPTY_ELEMENTDATA := S3_DEFAULTCAPACITY_EMPTY_ELEMENTDATA.ext E4
    have E6_b2 := A2.ext E4
    have F7_graph := F2_graph.ext E4
    have F8_zoneCount := F2_zoneCount.ext E4
    have F9_firstThruNode := F2_firstThruNode.ext E4
    have F10_linkTail := F2_linkTail.ext E4
    have F11_linkArc := F2_linkArc.ext E4
    have F12_capacity := F2_capacity.ext E4
    have F13_freeFlowTime := F2_freeFlowTime.ext E4
    have F14_b := F2_b.ext E4
    have F15_power := F2_power.ext E4
    have Z4 : n0 ≤ h4.size := Nat.le_trans Z2 E4.1
    have n0_b4 : n0 ≤ b4 := g4 ▸ Z2
    rw [← g4] at A4 D4 st4
    refine own_step st4 ?_
    have F4_modCount : Fld Z h4 b4 "java/util/AbstractList" "modCount" "I" (.int (0 : Int32)) := D4 (Or.inl (own_w hw 26 rfl)) (ty := .int) (by decide)
    have F4_elementData : Fld Z h4 b4 "java/util/ArrayList" "elementData" "[Ljava/lang/Object;" .null := D4 (Or.inl (own_w hw 29 rfl)) (ty := (.array (.object "java/lang/Object"))) (by decide)
    have F4_size : Fld Z h4 b4 "java/util/ArrayList" "size" "I" (.int (0 : Int32)) := D4 (Or.inl (own_w hw 44 rfl)) (ty := .int) (by decide)
    show GoP p e below Φ (T4.setTop (mkF m 59 #[.val (.int p1), .val (.int p2), .val (.int p3), .val (.int p4), .val (.int p5), .val (.int p6), .val (.int n), .val (.int z), .val (.int (p3 &&& (2147483647 : Int32))), .val (.int f), .unset, .unset, .unset, .unset, .unset, .unset, .unset] [(.ref b4), (.int f), (.int z), (.int n), (.ref b2), (.ref b2)]))
    refine own_dup X4 hx hby at_59 rfl (pc' := 60) rfl ?_
    refine own_callI X4 hx hby hZ (by exact hml) hown rfl (own_w hw 7 rfl) (own_w hw 8 rfl) (own_w hw 6 rfl) (own_w hw 9 rfl) (by decide) e4 6 (by decide) (by decide) (by decide) (by decide) (argsL := []) (rest := [(.ref b4), (.int f), (.int z), (.int n), (.ref b2), (.ref b2)]) (lenOf pd___V rfl) rfl (Nat.le_of_eq rfl) (rmAI l Z a0 hw b4 aD n0 h4 n0_b4 A4 F4_modCount F4_elementData F4_size S5_DEFAULTCAPACITY_EMPTY_ELEMENTDATA) at_60 (pc' := 63) rfl ?_
    intro v16 T16 L16 X16 hQ16
    obtain ⟨rfl, Nq16, K16, E16, FS16⟩ := hQ16
    have E17_b2 := E6_b2.keep K16
    have F18_graph := F7_graph.keep K16 (ninS ne_b2_b4 nin0)
    have F19_zoneCount := F8_zoneCount.keep K16 (ninS ne_b2_b4 nin0)
    have F20_firstThruNode := F9_firstThruNode.keep K16 (ninS ne_b2_b4 nin0)
    have F21_linkTail := F10_linkTail.keep K16 (ninS ne_b2_b4 nin0)
    have F22_linkArc := F11_linkArc.keep K16 (ninS ne_b2_b4 nin0)
    have F23_capacity := F12_capacity.keep K16 (ninS ne_b2_b4 nin0)
    have F24_freeFlowTime := F13_freeFlowTime.keep K16 (ninS ne_b2_b4 nin0)
    have F25_b := F14_b.keep K16 (ninS ne_b2_b4 nin0)
    have F26_power := F15_power.keep K16 (ninS ne_b2_b4 nin0)
    have N16 := Fr.app N0 Nq16
    have Z16 : n0 ≤ T16.heap.size := Nat.le_trans Z4 K16.1
    show GoP p e below Φ (T16.setTop (mkF m 63 #[.val (.int p1), .val (.int p2), .val (.int p3), .val (.int p4), .val (.int p5), .val (.int p6), .val (.int n), .val (.int z), .val (.int (p3 &&& (2147483647 : Int32))), .val (.int f), .unset, .unset, .unset, .unset, .unset, .unset, .unset] [(.ref b4), (.int f), (.int z), (.int n), (.ref b2), (.ref b2)]))
    refine own_callI X16 hx hby hZ (by exact hml) hown rfl (own_w hw 30 rfl) (own_w hw 31 rfl) (own_w hw 3 rfl) (own_w hw 32 rfl) (by decide) rfl 1 (by decide) (by decide) (by decide) (by decide) (argsL := [(.int n), (.int z), (.int f), (.ref b4)]) (rest := [(.ref b2)]) (lenOf pd__IIILjava_util_List__V rfl) rfl (Nat.le_of_eq rfl) (rmT l Z a0 hw b2 n z f b4 n0 T16.heap n0_b2 Z16 hn1 hn2 (own_geI (by rw [own_z0]; omega)) (own_geI (by omega)) (own_geI (by rw [own_z0]; omega)) ne_b2_b4 E17_b2 E16 FS16 F18_graph F19_zoneCount F20_firstThruNode F21_linkTail F22_linkArc F23_capacity F24_freeFlowTime F25_b F26_power) at_63 (pc' := 66) rfl ?_
    intro v29 T29 L29 X29 hQ29
    obtain ⟨rfl, Nq29, K29, E29, FT29⟩ := hQ29
    have N29 := Fr.app N16 Nq29
    have Z29 : n0 ≤ T29.heap.size := Nat.le_trans Z16 K29.1
    show GoP p e below Φ (T29.setTop (mkF m 66 #[.val (.int p1), .val (.int p2), .val (.int p3), .val (.int p4), .val (.int p5), .val (.int p6), .val (.int n), .val (.int z), .val (.int (p3 &&& (2147483647 : Int32))), .val (.int f), .unset, .unset, .unset, .unset, .unset, .unset, .unset] [(.ref b2)]))
    refine own_astore X29 hx hby at_66 rfl (Ls' := #[.val (.int p1), .val (.int p2), .val (.int p3), .val (.int p4), .val (.int p5), .val (.int p6), .val (.int n), .val (.int z), .val (.int (p3 &&& (2147483647 : Int32))), .val (.int f), .val (.ref b2), .unset, .unset, .unset, .unset, .unset, .unset]) rfl (pc' := 68) rfl ?_
    refine own_iconst X29 hx hby at_68 (v := (1 : Int32)) rfl (pc' := 69) rfl ?_
    refine own_iloadN X29 hx hby at_69 rfl (pc' := 70) rfl ?_
    refine own_ldcI X29 hx hby hZ hown (own_w hw 0 rfl) at_70 (pc' := 72) rfl ?_
    refine own_iand X29 hx hby at_72 (pc' := 73) rfl ?_
    refine own_iload X29 hx hby at_73 rfl (pc' := 75) rfl ?_
    refine own_irem X29 hx hby at_75 (own_pos (by omega)) (pc' := 76) rfl ?_
    refine own_iadd X29 hx hby at_76 (pc' := 77) rfl ?_
    refine own_istore X29 hx hby at_77  (Ls' := #[.val (.int p1), .val (.int p2), .val (.int p3), .val (.int p4), .val (.int p5), .val (.int p6), .val (.int n), .val (.int z), .val (.int (p3 &&& (2147483647 : Int32))), .val (.int f), .val (.ref b2), .val (.int ((1 : Int32) + ((p4 &&& (2147483647 : Int32)) % n))), .unset, .unset, .unset, .unset, .unset]) rfl (pc' := 79) rfl ?_
    refine own_iconst X29 hx hby at_79 (v := (1 : Int32)) rfl (pc' := 80) rfl ?_
    refine own_iload X29 hx hby at_80 rfl (pc' := 82) rfl ?_
    refine own_ldcI X29 hx hby hZ hown (own_w hw 0 rfl) at_82 (pc' := 84) rfl ?_
    refine own_iand X29 hx hby at_84 (pc' := 85) rfl ?_
    refine own_iload X29 hx hby at_85 rfl (pc' := 87) rfl ?_
    refine own_irem X29 hx hby at_87 (own_pos (by omega)) (pc' := 88) rfl ?_
    refine own_iadd X29 hx hby at_88 (pc' := 89) rfl ?_
    refine own_istore X29 hx hby at_89  (Ls' := #[.val (.int p1), .val (.int p2), .val (.int p3), .val (.int p4), .val (.int p5), .val (.int p6), .val (.int n), .val (.int z), .val (.int (p3 &&& (2147483647 : Int32))), .val (.int f), .val (.ref b2), .val (.int ((1 : Int32) + ((p4 &&& (2147483647 : Int32)) % n))), .val (.int ((1 : Int32) + ((p5 &&& (2147483647 : Int32)) % n))), .unset, .unset, .unset, .unset]) rfl (pc' := 91) rfl ?_
    obtain ⟨xa, exa, gxa, kxa⟩ : ∃ q : Int32, q = ((1 : Int32) + ((p4 &&& (2147483647 : Int32)) % n)) ∧ 1 ≤ q.toInt ∧ q.toInt ≤ n.toInt := ⟨_, rfl, by have u := own_md (own_mx p4) (show 0 < n.toInt by omega); have w := own_one u.1 u.2 hn2; omega⟩
    rw [← exa]
    obtain ⟨xb, exb, gxb, kxb⟩ : ∃ q : Int32, q = ((1 : Int32) + ((p5 &&& (2147483647 : Int32)) % n)) ∧ 1 ≤ q.toInt ∧ q.toInt ≤ n.toInt := ⟨_, rfl, by have u := own_md (own_mx p5) (show 0 < n.toInt by omega); have w := own_one u.1 u.2 hn2; omega⟩
    rw [← exb]
    refine own_iload X29 hx hby at_91 rfl (pc' := 93) rfl ?_
    refine own_iload X29 hx hby at_93 rfl (pc' := 95) rfl ?_
    refine own_callS X29 hx hby hZ (by exact hml) hown (own_w hw 93 rfl) (own_w hw 94 rfl) (own_w hw 95 rfl) (own_w hw 96 rfl) (by decide) rfl 0 (by decide) (by decide) (by decide) (by decide) (argsL := [(.int xa), (.int xb)]) (rest := []) (lenOf pd__II_I rfl) rfl (rmMin l Z a0 hw xa xb T29.heap) (Nat.le_of_eq rfl) at_95 (pc' := 98) rfl ?_
    intro v38 T38 L38 X38 hQ38
    obtain ⟨rfl, rfl, e38⟩ := hQ38
    rw [List.append_nil] at X38
    replace e38 : T38.heap = T29.heap := e38
    show GoP p e below Φ (T38.setTop (mkF m 98 #[.val (.int p1), .val (.int p2), .val (.int p3), .val (.int p4), .val (.int p5), .val (.int p6), .val (.int n), .val (.int z), .val (.int (p3 &&& (2147483647 : Int32))), .val (.int f), .val (.ref b2), .val (.int xa), .val (.int xb), .unset, .unset, .unset, .unset] [(.int (if xb < xa then xb else xa))]))
    refine own_istore X38 hx hby at_98  (Ls' := #[.val (.int p1), .val (.int p2), .val (.int p3), .val (.int p4), .val (.int p5), .val (.int p6), .val (.int n), .val (.int z), .val (.int (p3 &&& (2147483647 : Int32))), .val (.int f), .val (.ref b2), .val (.int xa), .val (.int xb), .val (.int (if xb < xa then xb else xa)), .unset, .unset, .unset]) rfl (pc' := 100) rfl ?_
    refine own_iload X38 hx hby at_100 rfl (pc' := 102) rfl ?_
    refine own_iload X38 hx hby at_102 rfl (pc' := 104) rfl ?_
    refine own_callS X38 hx hby hZ (by exact hml) hown (own_w hw 97 rfl) (own_w hw 98 rfl) (own_w hw 95 rfl) (own_w hw 99 rfl) (by decide) e38 0 (by decide) (by decide) (by decide) (by decide) (argsL := [(.int xa), (.int xb)]) (rest := []) (lenOf pd__II_I rfl) rfl (rmMax l Z a0 hw xa xb T29.heap) (Nat.le_of_eq rfl) at_104 (pc' := 107) rfl ?_
    intro v39 T39 L39 X39 hQ39
    obtain ⟨rfl, rfl, e39⟩ := hQ39
    rw [List.append_nil] at X39
    replace e39 : T39.heap = T29.heap := e39
    show GoP p e below Φ (T39.setTop (mkF m 107 #[.val (.int p1), .val (.int p2), .val (.int p3), .val (.int p4), .val (.int p5), .val (.int p6), .val (.int n), .val (.int z), .val (.int (p3 &&& (2147483647 : Int32))), .val (.int f), .val (.ref b2), .val (.int xa), .val (.int xb), .val (.int (if xb < xa then xb else xa)), .unset, .unset, .unset] [(.int (if xa < xb then xb else xa))]))
    refine own_istore X39 hx hby at_107  (Ls' := #[.val (.int p1), .val (.int p2), .val (.int p3), .val (.int p4), .val (.int p5), .val (.int p6), .val (.int n), .val (.int z), .val (.int (p3 &&& (2147483647 : Int32))), .val (.int f), .val (.ref b2), .val (.int xa), .val (.int xb), .val (.int (if xb < xa then xb else xa)), .val (.int (if xa < xb then xb else xa)), .unset, .unset]) rfl (pc' := 109) rfl ?_
    have hlh := own_lohi xa xb
    generalize (if xb < xa then xb else xa) = lo at hlh ⊢
    generalize (if xa < xb then xb else xa) = hi at hlh ⊢
    refine own_aload X39 hx hby at_109 rfl rfl (pc' := 111) rfl ?_
    refine own_iload X39 hx hby at_111 rfl (pc' := 113) rfl ?_
    refine own_callV X39 hx hby hZ (by exact hml) hown (own_w hw 100 rfl) (own_w hw 101 rfl) (own_w hw 103 rfl) (own_w hw 102 rfl) (own_w hw 3 rfl) (own_w hw 104 rfl) (by decide) e39 0 (by decide) (by decide) (by decide) (by decide) (argsL := [(.int lo)]) (rest := []) (lenOf pd__I_Z rfl) rfl (Nat.le_of_eq rfl) E29 (rmTh l Z a0 hw b2 lo f T29.heap FT29) at_113 (pc' := 116) rfl ?_
    intro v40 T40 L40 X40 hQ40
    obtain ⟨rfl, rfl, e40⟩ := hQ40
    rw [List.append_nil] at X40
    replace e40 : T40.heap = T29.heap := e40
    show GoP p e below Φ (T40.setTop (mkF m 116 #[.val (.int p1), .val (.int p2), .val (.int p3), .val (.int p4), .val (.int p5), .val (.int p6), .val (.int n), .val (.int z), .val (.int (p3 &&& (2147483647 : Int32))), .val (.int f), .val (.ref b2), .val (.int xa), .val (.int xb), .val (.int lo), .val (.int hi), .unset, .unset] [(.int (if lo < f then (0 : Int32) else (1 : Int32)))]))
    by_cases ht41 : lo < f
    · rw [if_pos ht41]
      refine own_ifY X40 hx hby at_116 ((if0 _ _).trans (teq (by decide)).1) (by decide) (pc' := 129) (by decide) ?_
      refine own_iconst X40 hx hby at_129 (v := (1 : Int32)) rfl (pc' := 130) rfl ?_
      refine own_goto X40 hx hby at_130 (by decide) (pc' := 134) (by decide) ?_
      refine own_istore X40 hx hby at_134  (Ls' := #[.val (.int p1), .val (.int p2), .val (.int p3), .val (.int p4), .val (.int p5), .val (.int p6), .val (.int n), .val (.int z), .val (.int (p3 &&& (2147483647 : Int32))), .val (.int f), .val (.ref b2), .val (.int xa), .val (.int xb), .val (.int lo), .val (.int hi), .val (.int (1 : Int32)), .unset]) rfl (pc' := 136) rfl ?_
      refine own_iload X40 hx hby at_136 rfl (pc' := 138) rfl ?_
      refine own_iconst X40 hx hby at_138 (v := (1 : Int32)) rfl (pc' := 139) rfl ?_
      by_cases hc139_42 : (1 : Int32) < f
      · refine own_icmpY X40 hx hby at_139 (tlt hc139_42).2.2.1 (by decide) (pc' := 153) (by decide) ?_
        refine own_iload X40 hx hby at_153 rfl (pc' := 155) rfl ?_
        refine own_iload X40 hx hby at_155 rfl (pc' := 157) rfl ?_
        by_cases hc157_43 : n < f
        · refine own_icmpY X40 hx hby at_157 (tlt hc157_43).2.2.1 (by decide) (pc' := 192) (by decide) ?_
          refine own_aload X40 hx hby at_192 rfl rfl (pc' := 194) rfl ?_
          refine own_iload X40 hx hby at_194 rfl (pc' := 196) rfl ?_
          refine own_callV X40 hx hby hZ (by exact hml) hown (own_w hw 100 rfl) (own_w hw 101 rfl) (own_w hw 103 rfl) (own_w hw 102 rfl) (own_w hw 3 rfl) (own_w hw 104 rfl) (by decide) e40 0 (by decide) (by decide) (by decide) (by decide) (argsL := [(.int n)]) (rest := []) (lenOf pd__I_Z rfl) rfl (Nat.le_of_eq rfl) E29 (rmTh l Z a0 hw b2 n f T29.heap FT29) at_196 (pc' := 199) rfl ?_
          intro v44 T44 L44 X44 hQ44
          obtain ⟨rfl, rfl, e44⟩ := hQ44
          rw [List.append_nil] at X44
          replace e44 : T44.heap = T29.heap := e44
          show GoP p e below Φ (T44.setTop (mkF m 199 #[.val (.int p1), .val (.int p2), .val (.int p3), .val (.int p4), .val (.int p5), .val (.int p6), .val (.int n), .val (.int z), .val (.int (p3 &&& (2147483647 : Int32))), .val (.int f), .val (.ref b2), .val (.int xa), .val (.int xb), .val (.int lo), .val (.int hi), .val (.int (1 : Int32)), .unset] [(.int (if n < f then (0 : Int32) else (1 : Int32)))]))
          rw [if_pos (show n < f from (by simp only [Int32.lt_iff_toInt_lt, own_z1] at *; omega))]
          refine own_ifN X44 hx hby at_199 ((if0 _ _).trans (teq (by decide)).2) (pc' := 202) rfl ?_
          refine own_iconst X44 hx hby at_202 (v := (1 : Int32)) rfl (pc' := 203) rfl ?_
          refine own_goto X44 hx hby at_203 (by decide) (pc' := 207) (by decide) ?_
          refine own_istore X44 hx hby at_207  (Ls' := #[.val (.int p1), .val (.int p2), .val (.int p3), .val (.int p4), .val (.int p5), .val (.int p6), .val (.int n), .val (.int z), .val (.int (p3 &&& (2147483647 : Int32))), .val (.int f), .val (.ref b2), .val (.int xa), .val (.int xb), .val (.int lo), .val (.int hi), .val (.int (1 : Int32)), .val (.int (1 : Int32))]) rfl (pc' := 209) rfl ?_
          refine own_iload X44 hx hby at_209 rfl (pc' := 211) rfl ?_
          refine own_ifN X44 hx hby at_211 ((if0 _ _).trans (feq (by decide)).1) (pc' := 214) rfl ?_
          refine own_iload X44 hx hby at_214 rfl (pc' := 216) rfl ?_
          refine own_ifN X44 hx hby at_216 ((if0 _ _).trans (feq (by decide)).1) (pc' := 219) rfl ?_
          refine own_iconst X44 hx hby at_219 (v := (1 : Int32)) rfl (pc' := 220) rfl ?_
          refine own_goto X44 hx hby at_220 (by decide) (pc' := 224) (by decide) ?_
          exact own_retN X44 hx hby fin hret (by simp) rfl at_224 (by decide) (by decide) ⟨rfl, N29⟩
        · refine own_icmpN X40 hx hby at_157 (flt hc157_43).2.2.1 (pc' := 160) rfl ?_
          refine own_aload X40 hx hby at_160 rfl rfl (pc' := 162) rfl ?_
          refine own_iload X40 hx hby at_162 rfl (pc' := 164) rfl ?_
          refine own_callV X40 hx hby hZ (by exact hml) hown (own_w hw 100 rfl) (own_w hw 101 rfl) (own_w hw 103 rfl) (own_w hw 102 rfl) (own_w hw 3 rfl) (own_w hw 104 rfl) (by decide) e40 0 (by decide) (by decide) (by decide) (by decide) (argsL := [(.int f)]) (rest := []) (lenOf pd__I_Z rfl) rfl (Nat.le_of_eq rfl) E29 (rmTh l Z a0 hw b2 f f T29.heap FT29) at_164 (pc' := 167) rfl ?_
          intro v45 T45 L45 X45 hQ45
          obtain ⟨rfl, rfl, e45⟩ := hQ45
          rw [List.append_nil] at X45
          replace e45 : T45.heap = T29.heap := e45
          show GoP p e below Φ (T45.setTop (mkF m 167 #[.val (.int p1), .val (.int p2), .val (.int p3), .val (.int p4), .val (.int p5), .val (.int p6), .val (.int n), .val (.int z), .val (.int (p3 &&& (2147483647 : Int32))), .val (.int f), .val (.ref b2), .val (.int xa), .val (.int xb), .val (.int lo), .val (.int hi), .val (.int (1 : Int32)), .unset] [(.int (if f < f then (0 : Int32) else (1 : Int32)))]))
          rw [if_neg (show ¬ f < f from (by simp only [Int32.lt_iff_toInt_lt, own_z1] at *; omega))]
          refine own_ifN X45 hx hby at_167 ((if0 _ _).trans (feq (by decide)).1) (pc' := 170) rfl ?_
          refine own_aload X45 hx hby at_170 rfl rfl (pc' := 172) rfl ?_
          refine own_iload X45 hx hby at_172 rfl (pc' := 174) rfl ?_
          refine own_iconst X45 hx hby at_174 (v := (1 : Int32)) rfl (pc' := 175) rfl ?_
          refine own_isub X45 hx hby at_175 (pc' := 176) rfl ?_
          refine own_callV X45 hx hby hZ (by exact hml) hown (own_w hw 100 rfl) (own_w hw 101 rfl) (own_w hw 103 rfl) (own_w hw 102 rfl) (own_w hw 3 rfl) (own_w hw 104 rfl) (by decide) e45 0 (by decide) (by decide) (by decide) (by decide) (argsL := [(.int (f - (1 : Int32)))]) (rest := []) (lenOf pd__I_Z rfl) rfl (Nat.le_of_eq rfl) E29 (rmTh l Z a0 hw b2 (f - (1 : Int32)) f T29.heap FT29) at_176 (pc' := 179) rfl ?_
          intro v46 T46 L46 X46 hQ46
          obtain ⟨rfl, rfl, e46⟩ := hQ46
          rw [List.append_nil] at X46
          replace e46 : T46.heap = T29.heap := e46
          show GoP p e below Φ (T46.setTop (mkF m 179 #[.val (.int p1), .val (.int p2), .val (.int p3), .val (.int p4), .val (.int p5), .val (.int p6), .val (.int n), .val (.int z), .val (.int (p3 &&& (2147483647 : Int32))), .val (.int f), .val (.ref b2), .val (.int xa), .val (.int xb), .val (.int lo), .val (.int hi), .val (.int (1 : Int32)), .unset] [(.int (if (f - (1 : Int32)) < f then (0 : Int32) else (1 : Int32)))]))
          rw [if_pos (show (f - (1 : Int32)) < f from (by have u := own_sub32 (x := f) (y := (1 : Int32)) (k := f.toInt - 1) (by rw [own_z1]) (by omega) (by have := rng32 f; omega); simp only [Int32.lt_iff_toInt_lt, own_z1] at *; omega))]
          refine own_ifN X46 hx hby at_179 ((if0 _ _).trans (teq (by decide)).2) (pc' := 182) rfl ?_
          refine own_iconst X46 hx hby at_182 (v := (1 : Int32)) rfl (pc' := 183) rfl ?_
          refine own_goto X46 hx hby at_183 (by decide) (pc' := 187) (by decide) ?_
          refine own_istore X46 hx hby at_187  (Ls' := #[.val (.int p1), .val (.int p2), .val (.int p3), .val (.int p4), .val (.int p5), .val (.int p6), .val (.int n), .val (.int z), .val (.int (p3 &&& (2147483647 : Int32))), .val (.int f), .val (.ref b2), .val (.int xa), .val (.int xb), .val (.int lo), .val (.int hi), .val (.int (1 : Int32)), .val (.int (1 : Int32))]) rfl (pc' := 189) rfl ?_
          refine own_goto X46 hx hby at_189 (by decide) (pc' := 209) (by decide) ?_
          refine own_iload X46 hx hby at_209 rfl (pc' := 211) rfl ?_
          refine own_ifN X46 hx hby at_211 ((if0 _ _).trans (feq (by decide)).1) (pc' := 214) rfl ?_
          refine own_iload X46 hx hby at_214 rfl (pc' := 216) rfl ?_
          refine own_ifN X46 hx hby at_216 ((if0 _ _).trans (feq (by decide)).1) (pc' := 219) rfl ?_
          refine own_iconst X46 hx hby at_219 (v := (1 : Int32)) rfl (pc' := 220) rfl ?_
          refine own_goto X46 hx hby at_220 (by decide) (pc' := 224) (by decide) ?_
          exact own_retN X46 hx hby fin hret (by simp) rfl at_224 (by decide) (by decide) ⟨rfl, N29⟩
      · refine own_icmpN X40 hx hby at_139 (flt hc139_42).2.2.1 (pc' := 142) rfl ?_
        refine own_aload X40 hx hby at_142 rfl rfl (pc' := 144) rfl ?_
        refine own_iconst X40 hx hby at_144 (v := (1 : Int32)) rfl (pc' := 145) rfl ?_
        refine own_callV X40 hx hby hZ (by exact hml) hown (own_w hw 100 rfl) (own_w hw 101 rfl) (own_w hw 103 rfl) (own_w hw 102 rfl) (own_w hw 3 rfl) (own_w hw 104 rfl) (by decide) e40 0 (by decide) (by decide) (by decide) (by decide) (argsL := [(.int (1 : Int32))]) (rest := []) (lenOf pd__I_Z rfl) rfl (Nat.le_of_eq rfl) E29 (rmTh l Z a0 hw b2 (1 : Int32) f T29.heap FT29) at_145 (pc' := 148) rfl ?_
        intro v47 T47 L47 X47 hQ47
        obtain ⟨rfl, rfl, e47⟩ := hQ47
        rw [List.append_nil] at X47
        replace e47 : T47.heap = T29.heap := e47
        show GoP p e below Φ (T47.setTop (mkF m 148 #[.val (.int p1), .val (.int p2), .val (.int p3), .val (.int p4), .val (.int p5), .val (.int p6), .val (.int n), .val (.int z), .val (.int (p3 &&& (2147483647 : Int32))), .val (.int f), .val (.ref b2), .val (.int xa), .val (.int xb), .val (.int lo), .val (.int hi), .val (.int (1 : Int32)), .unset] [(.int (if (1 : Int32) < f then (0 : Int32) else (1 : Int32)))]))
        rw [if_neg (show ¬ (1 : Int32) < f from (by simp only [Int32.lt_iff_toInt_lt, own_z1] at *; omega))]
        refine own_istore X47 hx hby at_148  (Ls' := #[.val (.int p1), .val (.int p2), .val (.int p3), .val (.int p4), .val (.int p5), .val (.int p6), .val (.int n), .val (.int z), .val (.int (p3 &&& (2147483647 : Int32))), .val (.int f), .val (.ref b2), .val (.int xa), .val (.int xb), .val (.int lo), .val (.int hi), .val (.int (1 : Int32)), .val (.int (1 : Int32))]) rfl (pc' := 150) rfl ?_
        refine own_goto X47 hx hby at_150 (by decide) (pc' := 209) (by decide) ?_
        refine own_iload X47 hx hby at_209 rfl (pc' := 211) rfl ?_
        refine own_ifN X47 hx hby at_211 ((if0 _ _).trans (feq (by decide)).1) (pc' := 214) rfl ?_
        refine own_iload X47 hx hby at_214 rfl (pc' := 216) rfl ?_
        refine own_ifN X47 hx hby at_216 ((if0 _ _).trans (feq (by decide)).1) (pc' := 219) rfl ?_
        refine own_iconst X47 hx hby at_219 (v := (1 : Int32)) rfl (pc' := 220) rfl ?_
        refine own_goto X47 hx hby at_220 (by decide) (pc' := 224) (by decide) ?_
        exact own_retN X47 hx hby fin hret (by simp) rfl at_224 (by decide) (by decide) ⟨rfl, N29⟩
    · rw [if_neg ht41]
      refine own_ifN X40 hx hby at_116 ((if0 _ _).trans (feq (by decide)).1) (pc' := 119) rfl ?_
      refine own_aload X40 hx hby at_119 rfl rfl (pc' := 121) rfl ?_
      refine own_iload X40 hx hby at_121 rfl (pc' := 123) rfl ?_
      refine own_callV X40 hx hby hZ (by exact hml) hown (own_w hw 100 rfl) (own_w hw 101 rfl) (own_w hw 103 rfl) (own_w hw 102 rfl) (own_w hw 3 rfl) (own_w hw 104 rfl) (by decide) e40 0 (by decide) (by decide) (by decide) (by decide) (argsL := [(.int hi)]) (rest := []) (lenOf pd__I_Z rfl) rfl (Nat.le_of_eq rfl) E29 (rmTh l Z a0 hw b2 hi f T29.heap FT29) at_123 (pc' := 126) rfl ?_
      intro v48 T48 L48 X48 hQ48
      obtain ⟨rfl, rfl, e48⟩ := hQ48
      rw [List.append_nil] at X48
      replace e48 : T48.heap = T29.heap := e48
      show GoP p e below Φ (T48.setTop (mkF m 126 #[.val (.int p1), .val (.int p2), .val (.int p3), .val (.int p4), .val (.int p5), .val (.int p6), .val (.int n), .val (.int z), .val (.int (p3 &&& (2147483647 : Int32))), .val (.int f), .val (.ref b2), .val (.int xa), .val (.int xb), .val (.int lo), .val (.int hi), .unset, .unset] [(.int (if hi < f then (0 : Int32) else (1 : Int32)))]))
      rw [if_neg (show ¬ hi < f from (by simp only [Int32.lt_iff_toInt_lt, own_z1] at *; omega))]
      refine own_ifN X48 hx hby at_126 ((if0 _ _).trans (feq (by decide)).1) (pc' := 129) rfl ?_
      refine own_iconst X48 hx hby at_129 (v := (1 : Int32)) rfl (pc' := 130) rfl ?_
      refine own_goto X48 hx hby at_130 (by decide) (pc' := 134) (by decide) ?_
      refine own_istore X48 hx hby at_134  (Ls' := #[.val (.int p1), .val (.int p2), .val (.int p3), .val (.int p4), .val (.int p5), .val (.int p6), .val (.int n), .val (.int z), .val (.int (p3 &&& (2147483647 : Int32))), .val (.int f), .val (.ref b2), .val (.int xa), .val (.int xb), .val (.int lo), .val (.int hi), .val (.int (1 : Int32)), .unset]) rfl (pc' := 136) rfl ?_
      refine own_iload X48 hx hby at_136 rfl (pc' := 138) rfl ?_
      refine own_iconst X48 hx hby at_138 (v := (1 : Int32)) rfl (pc' := 139) rfl ?_
      by_cases hc139_49 : (1 : Int32) < f
      · refine own_icmpY X48 hx hby at_139 (tlt hc139_49).2.2.1 (by decide) (pc' := 153) (by decide) ?_
        refine own_iload X48 hx hby at_153 rfl (pc' := 155) rfl ?_
        refine own_iload X48 hx hby at_155 rfl (pc' := 157) rfl ?_
        by_cases hc157_50 : n < f
        · refine own_icmpY X48 hx hby at_157 (tlt hc157_50).2.2.1 (by decide) (pc' := 192) (by decide) ?_
          refine own_aload X48 hx hby at_192 rfl rfl (pc' := 194) rfl ?_
          refine own_iload X48 hx hby at_194 rfl (pc' := 196) rfl ?_
          refine own_callV X48 hx hby hZ (by exact hml) hown (own_w hw 100 rfl) (own_w hw 101 rfl) (own_w hw 103 rfl) (own_w hw 102 rfl) (own_w hw 3 rfl) (own_w hw 104 rfl) (by decide) e48 0 (by decide) (by decide) (by decide) (by decide) (argsL := [(.int n)]) (rest := []) (lenOf pd__I_Z rfl) rfl (Nat.le_of_eq rfl) E29 (rmTh l Z a0 hw b2 n f T29.heap FT29) at_196 (pc' := 199) rfl ?_
          intro v51 T51 L51 X51 hQ51
          obtain ⟨rfl, rfl, e51⟩ := hQ51
          rw [List.append_nil] at X51
          replace e51 : T51.heap = T29.heap := e51
          show GoP p e below Φ (T51.setTop (mkF m 199 #[.val (.int p1), .val (.int p2), .val (.int p3), .val (.int p4), .val (.int p5), .val (.int p6), .val (.int n), .val (.int z), .val (.int (p3 &&& (2147483647 : Int32))), .val (.int f), .val (.ref b2), .val (.int xa), .val (.int xb), .val (.int lo), .val (.int hi), .val (.int (1 : Int32)), .unset] [(.int (if n < f then (0 : Int32) else (1 : Int32)))]))
          rw [if_pos (show n < f from (by simp only [Int32.lt_iff_toInt_lt, own_z1] at *; omega))]
          refine own_ifN X51 hx hby at_199 ((if0 _ _).trans (teq (by decide)).2) (pc' := 202) rfl ?_
          refine own_iconst X51 hx hby at_202 (v := (1 : Int32)) rfl (pc' := 203) rfl ?_
          refine own_goto X51 hx hby at_203 (by decide) (pc' := 207) (by decide) ?_
          refine own_istore X51 hx hby at_207  (Ls' := #[.val (.int p1), .val (.int p2), .val (.int p3), .val (.int p4), .val (.int p5), .val (.int p6), .val (.int n), .val (.int z), .val (.int (p3 &&& (2147483647 : Int32))), .val (.int f), .val (.ref b2), .val (.int xa), .val (.int xb), .val (.int lo), .val (.int hi), .val (.int (1 : Int32)), .val (.int (1 : Int32))]) rfl (pc' := 209) rfl ?_
          refine own_iload X51 hx hby at_209 rfl (pc' := 211) rfl ?_
          refine own_ifN X51 hx hby at_211 ((if0 _ _).trans (feq (by decide)).1) (pc' := 214) rfl ?_
          refine own_iload X51 hx hby at_214 rfl (pc' := 216) rfl ?_
          refine own_ifN X51 hx hby at_216 ((if0 _ _).trans (feq (by decide)).1) (pc' := 219) rfl ?_
          refine own_iconst X51 hx hby at_219 (v := (1 : Int32)) rfl (pc' := 220) rfl ?_
          refine own_goto X51 hx hby at_220 (by decide) (pc' := 224) (by decide) ?_
          exact own_retN X51 hx hby fin hret (by simp) rfl at_224 (by decide) (by decide) ⟨rfl, N29⟩
        · refine own_icmpN X48 hx hby at_157 (flt hc157_50).2.2.1 (pc' := 160) rfl ?_
          refine own_aload X48 hx hby at_160 rfl rfl (pc' := 162) rfl ?_
          refine own_iload X48 hx hby at_162 rfl (pc' := 164) rfl ?_
          refine own_callV X48 hx hby hZ (by exact hml) hown (own_w hw 100 rfl) (own_w hw 101 rfl) (own_w hw 103 rfl) (own_w hw 102 rfl) (own_w hw 3 rfl) (own_w hw 104 rfl) (by decide) e48 0 (by decide) (by decide) (by decide) (by decide) (argsL := [(.int f)]) (rest := []) (lenOf pd__I_Z rfl) rfl (Nat.le_of_eq rfl) E29 (rmTh l Z a0 hw b2 f f T29.heap FT29) at_164 (pc' := 167) rfl ?_
          intro v52 T52 L52 X52 hQ52
          obtain ⟨rfl, rfl, e52⟩ := hQ52
          rw [List.append_nil] at X52
          replace e52 : T52.heap = T29.heap := e52
          show GoP p e below Φ (T52.setTop (mkF m 167 #[.val (.int p1), .val (.int p2), .val (.int p3), .val (.int p4), .val (.int p5), .val (.int p6), .val (.int n), .val (.int z), .val (.int (p3 &&& (2147483647 : Int32))), .val (.int f), .val (.ref b2), .val (.int xa), .val (.int xb), .val (.int lo), .val (.int hi), .val (.int (1 : Int32)), .unset] [(.int (if f < f then (0 : Int32) else (1 : Int32)))]))
          rw [if_neg (show ¬ f < f from (by simp only [Int32.lt_iff_toInt_lt, own_z1] at *; omega))]
          refine own_ifN X52 hx hby at_167 ((if0 _ _).trans (feq (by decide)).1) (pc' := 170) rfl ?_
          refine own_aload X52 hx hby at_170 rfl rfl (pc' := 172) rfl ?_
          refine own_iload X52 hx hby at_172 rfl (pc' := 174) rfl ?_
          refine own_iconst X52 hx hby at_174 (v := (1 : Int32)) rfl (pc' := 175) rfl ?_
          refine own_isub X52 hx hby at_175 (pc' := 176) rfl ?_
          refine own_callV X52 hx hby hZ (by exact hml) hown (own_w hw 100 rfl) (own_w hw 101 rfl) (own_w hw 103 rfl) (own_w hw 102 rfl) (own_w hw 3 rfl) (own_w hw 104 rfl) (by decide) e52 0 (by decide) (by decide) (by decide) (by decide) (argsL := [(.int (f - (1 : Int32)))]) (rest := []) (lenOf pd__I_Z rfl) rfl (Nat.le_of_eq rfl) E29 (rmTh l Z a0 hw b2 (f - (1 : Int32)) f T29.heap FT29) at_176 (pc' := 179) rfl ?_
          intro v53 T53 L53 X53 hQ53
          obtain ⟨rfl, rfl, e53⟩ := hQ53
          rw [List.append_nil] at X53
          replace e53 : T53.heap = T29.heap := e53
          show GoP p e below Φ (T53.setTop (mkF m 179 #[.val (.int p1), .val (.int p2), .val (.int p3), .val (.int p4), .val (.int p5), .val (.int p6), .val (.int n), .val (.int z), .val (.int (p3 &&& (2147483647 : Int32))), .val (.int f), .val (.ref b2), .val (.int xa), .val (.int xb), .val (.int lo), .val (.int hi), .val (.int (1 : Int32)), .unset] [(.int (if (f - (1 : Int32)) < f then (0 : Int32) else (1 : Int32)))]))
          rw [if_pos (show (f - (1 : Int32)) < f from (by have u := own_sub32 (x := f) (y := (1 : Int32)) (k := f.toInt - 1) (by rw [own_z1]) (by omega) (by have := rng32 f; omega); simp only [Int32.lt_iff_toInt_lt, own_z1] at *; omega))]
          refine own_ifN X53 hx hby at_179 ((if0 _ _).trans (teq (by decide)).2) (pc' := 182) rfl ?_
          refine own_iconst X53 hx hby at_182 (v := (1 : Int32)) rfl (pc' := 183) rfl ?_
          refine own_goto X53 hx hby at_183 (by decide) (pc' := 187) (by decide) ?_
          refine own_istore X53 hx hby at_187  (Ls' := #[.val (.int p1), .val (.int p2), .val (.int p3), .val (.int p4), .val (.int p5), .val (.int p6), .val (.int n), .val (.int z), .val (.int (p3 &&& (2147483647 : Int32))), .val (.int f), .val (.ref b2), .val (.int xa), .val (.int xb), .val (.int lo), .val (.int hi), .val (.int (1 : Int32)), .val (.int (1 : Int32))]) rfl (pc' := 189) rfl ?_
          refine own_goto X53 hx hby at_189 (by decide) (pc' := 209) (by decide) ?_
          refine own_iload X53 hx hby at_209 rfl (pc' := 211) rfl ?_
          refine own_ifN X53 hx hby at_211 ((if0 _ _).trans (feq (by decide)).1) (pc' := 214) rfl ?_
          refine own_iload X53 hx hby at_214 rfl (pc' := 216) rfl ?_
          refine own_ifN X53 hx hby at_216 ((if0 _ _).trans (feq (by decide)).1) (pc' := 219) rfl ?_
          refine own_iconst X53 hx hby at_219 (v := (1 : Int32)) rfl (pc' := 220) rfl ?_
          refine own_goto X53 hx hby at_220 (by decide) (pc' := 224) (by decide) ?_
          exact own_retN X53 hx hby fin hret (by simp) rfl at_224 (by decide) (by decide) ⟨rfl, N29⟩
      · refine own_icmpN X48 hx hby at_139 (flt hc139_49).2.2.1 (pc' := 142) rfl ?_
        refine own_aload X48 hx hby at_142 rfl rfl (pc' := 144) rfl ?_
        refine own_iconst X48 hx hby at_144 (v := (1 : Int32)) rfl (pc' := 145) rfl ?_
        refine own_callV X48 hx hby hZ (by exact hml) hown (own_w hw 100 rfl) (own_w hw 101 rfl) (own_w hw 103 rfl) (own_w hw 102 rfl) (own_w hw 3 rfl) (own_w hw 104 rfl) (by decide) e48 0 (by decide) (by decide) (by decide) (by decide) (argsL := [(.int (1 : Int32))]) (rest := []) (lenOf pd__I_Z rfl) rfl (Nat.le_of_eq rfl) E29 (rmTh l Z a0 hw b2 (1 : Int32) f T29.heap FT29) at_145 (pc' := 148) rfl ?_
        intro v54 T54 L54 X54 hQ54
        obtain ⟨rfl, rfl, e54⟩ := hQ54
        rw [List.append_nil] at X54
        replace e54 : T54.heap = T29.heap := e54
        show GoP p e below Φ (T54.setTop (mkF m 148 #[.val (.int p1), .val (.int p2), .val (.int p3), .val (.int p4), .val (.int p5), .val (.int p6), .val (.int n), .val (.int z), .val (.int (p3 &&& (2147483647 : Int32))), .val (.int f), .val (.ref b2), .val (.int xa), .val (.int xb), .val (.int lo), .val (.int hi), .val (.int (1 : Int32)), .unset] [(.int (if (1 : Int32) < f then (0 : Int32) else (1 : Int32)))]))
        rw [if_neg (show ¬ (1 : Int32) < f from (by simp only [Int32.lt_iff_toInt_lt, own_z1] at *; omega))]
        refine own_istore X54 hx hby at_148  (Ls' := #[.val (.int p1), .val (.int p2), .val (.int p3), .val (.int p4), .val (.int p5), .val (.int p6), .val (.int n), .val (.int z), .val (.int (p3 &&& (2147483647 : Int32))), .val (.int f), .val (.ref b2), .val (.int xa), .val (.int xb), .val (.int lo), .val (.int hi), .val (.int (1 : Int32)), .val (.int (1 : Int32))]) rfl (pc' := 150) rfl ?_
        refine own_goto X54 hx hby at_150 (by decide) (pc' := 209) (by decide) ?_
        refine own_iload X54 hx hby at_209 rfl (pc' := 211) rfl ?_
        refine own_ifN X54 hx hby at_211 ((if0 _ _).trans (feq (by decide)).1) (pc' := 214) rfl ?_
        refine own_iload X54 hx hby at_214 rfl (pc' := 216) rfl ?_
        refine own_ifN X54 hx hby at_216 ((if0 _ _).trans (feq (by decide)).1) (pc' := 219) rfl ?_
        refine own_iconst X54 hx hby at_219 (v := (1 : Int32)) rfl (pc' := 220) rfl ?_
        refine own_goto X54 hx hby at_220 (by decide) (pc' := 224) (by decide) ?_
        exact own_retN X54 hx hby fin hret (by simp) rfl at_224 (by decide) (by decide) ⟨rfl, N29⟩
  · refine own_ifN X hx hby at_29 ((if0 _ _).trans (feq hc29_1).1) (pc' := 32) rfl ?_
    refine own_iload X hx hby at_32 rfl (pc' := 34) rfl ?_
    refine own_goto X hx hby at_34 (by decide) (pc' := 44) (by decide) ?_
    refine own_istore X hx hby at_44  (Ls' := #[.val (.int p1), .val (.int p2), .val (.int p3), .val (.int p4), .val (.int p5), .val (.int p6), .val (.int n), .val (.int z), .val (.int (p3 &&& (2147483647 : Int32))), .val (.int (p3 &&& (2147483647 : Int32))), .unset, .unset, .unset, .unset, .unset, .unset, .unset]) rfl (pc' := 46) rfl ?_
    obtain ⟨f, ef, hf⟩ : ∃ f : Int32, f = (p3 &&& (2147483647 : Int32)) ∧ 0 ≤ f.toInt := ⟨_, rfl, own_mx p3⟩
    rw [← ef]
    obtain ⟨T55, h55, X55, e55, E55, A55, D55, -, st55⟩ := newO X hx hZ hown (own_w hw 1 rfl) (own_w hw 2 rfl) (own_w hw 3 rfl) eT (g := (mkF m 46 #[.val (.int p1), .val (.int p2), .val (.int p3), .val (.int p4), .val (.int p5), .val (.int p6), .val (.int n), .val (.int z), .val (.int f), .val (.int f), .unset, .unset, .unset, .unset, .unset, .unset, .unset] [])) rfl (hb hby at_46) (by decide) (by decide)
    obtain ⟨b55, g55⟩ : ∃ z, z = h0.size := ⟨_, rfl⟩
    have S56_DEFAULTCAPACITY_EMPTY_ELEMENTDATA := S.ext E55
    have Z55 : n0 ≤ h55.size := Nat.le_trans Z0 E55.1
    have n0_b55 : n0 ≤ b55 := g55 ▸ Z0
    rw [← g55] at A55 D55 st55
    refine own_step st55 ?_
    have F55_graph : Fld Z h55 b55 "com/example/wayfold/wayfold/TrafficNetwork" "graph" "Lcom/example/wayfold/wayfold/Graph;" .null := D55 (Or.inr (own_w hw 70 rfl)) (ty := (.object "com/example/wayfold/wayfold/Graph")) (by decide)
    have F55_zoneCount : Fld Z h55 b55 "com/example/wayfold/wayfold/TrafficNetwork" "zoneCount" "I" (.int (0 : Int32)) := D55 (Or.inr (own_w hw 72 rfl)) (ty := .int) (by decide)
    have F55_firstThruNode : Fld Z h55 b55 "com/example/wayfold/wayfold/TrafficNetwork" "firstThruNode" "I" (.int (0 : Int32)) := D55 (Or.inr (own_w hw 74 rfl)) (ty := .int) (by decide)
    have F55_linkTail : Fld Z h55 b55 "com/example/wayfold/wayfold/TrafficNetwork" "linkTail" "[I" .null := D55 (Or.inr (own_w hw 76 rfl)) (ty := (.array .int)) (by decide)
    have F55_linkArc : Fld Z h55 b55 "com/example/wayfold/wayfold/TrafficNetwork" "linkArc" "[I" .null := D55 (Or.inr (own_w hw 78 rfl)) (ty := (.array .int)) (by decide)
    have F55_capacity : Fld Z h55 b55 "com/example/wayfold/wayfold/TrafficNetwork" "capacity" "[D" .null := D55 (Or.inr (own_w hw 86 rfl)) (ty := (.array .double)) (by decide)
    have F55_freeFlowTime : Fld Z h55 b55 "com/example/wayfold/wayfold/TrafficNetwork" "freeFlowTime" "[D" .null := D55 (Or.inr (own_w hw 88 rfl)) (ty := (.array .double)) (by decide)
    have F55_b : Fld Z h55 b55 "com/example/wayfold/wayfold/TrafficNetwork" "b" "[D" .null := D55 (Or.inr (own_w hw 90 rfl)) (ty := (.array .double)) (by decide)
    have F55_power : Fld Z h55 b55 "com/example/wayfold/wayfold/TrafficNetwork" "power" "[D" .null := D55 (Or.inr (own_w hw 92 rfl)) (ty := (.array .double)) (by decide)
    show GoP p e below Φ (T55.setTop (mkF m 49 #[.val (.int p1), .val (.int p2), .val (.int p3), .val (.int p4), .val (.int p5), .val (.int p6), .val (.int n), .val (.int z), .val (.int f), .val (.int f), .unset, .unset, .unset, .unset, .unset, .unset, .unset] [(.ref b55)]))
    refine own_dup X55 hx hby at_49 rfl (pc' := 50) rfl ?_
    refine own_iload X55 hx hby at_50 rfl (pc' := 52) rfl ?_
    refine own_iload X55 hx hby at_52 rfl (pc' := 54) rfl ?_
    refine own_iload X55 hx hby at_54 rfl (pc' := 56) rfl ?_
    obtain ⟨T57, h57, X57, e57, E57, A57, D57, -, st57⟩ := newO X55 hx hZ hown (own_w hw 4 rfl) (own_w hw 5 rfl) (own_w hw 6 rfl) e55 (g := (mkF m 56 #[.val (.int p1), .val (.int p2), .val (.int p3), .val (.int p4), .val (.int p5), .val (.int p6), .val (.int n), .val (.int z), .val (.int f), .val (.int f), .unset, .unset, .unset, .unset, .unset, .unset, .unset] [(.int f), (.int z), (.int n), (.ref b55), (.ref b55)])) rfl (hb hby at_56) (by decide) (by decide)
    obtain ⟨b57, g57⟩ : ∃ z, z = h55.size := ⟨_, rfl⟩
    have ne_b55_b57 : b55 ≠ b57 := Nat.ne_of_lt (g57 ▸ A55.lt)
    have S58_DEFAULTCAPACITY_EMPTY_ELEMENTDATA := S56_DEFAULTCAPACITY_EMPTY_ELEMENTDATA.ext E57
    have E59_b55 := A55.ext E57
    have F60_graph := F55_graph.ext E57
    have F61_zoneCount := F55_zoneCount.ext E57
    have F62_firstThruNode := F55_firstThruNode.ext E57
    have F63_linkTail := F55_linkTail.ext E57
    have F64_linkArc := F55_linkArc.ext E57
    have F65_capacity := F55_capacity.ext E57
    have F66_freeFlowTime := F55_freeFlowTime.ext E57
    have F67_b := F55_b.ext E57
    have F68_power := F55_power.ext E57
    have Z57 : n0 ≤ h57.size := Nat.le_trans Z55 E57.1
    have n0_b57 : n0 ≤ b57 := g57 ▸ Z55
    rw [← g57] at A57 D57 st57
    refine own_step st57 ?_
    have F57_modCount : Fld Z h57 b57 "java/util/AbstractList" "modCount" "I" (.int (0 : Int32)) := D57 (Or.inl (own_w hw 26 rfl)) (ty := .int) (by decide)
    have F57_elementData : Fld Z h57 b57 "java/util/ArrayList" "elementData" "[Ljava/lang/Object;" .null := D57 (Or.inl (own_w hw 29 rfl)) (ty := (.array (.object "java/lang/Object"))) (by decide)
    have F57_size : Fld Z h57 b57 "java/util/ArrayList" "size" "I" (.int (0 : Int32)) := D57 (Or.inl (own_w hw 44 rfl)) (ty := .int) (by decide)
    show GoP p e below Φ (T57.setTop (mkF m 59 #[.val (.int p1), .val (.int p2), .val (.int p3), .val (.int p4), .val (.int p5), .val (.int p6), .val (.int n), .val (.int z), .val (.int f), .val (.int f), .unset, .unset, .unset, .unset, .unset, .unset, .unset] [(.ref b57), (.int f), (.int z), (.int n), (.ref b55), (.ref b55)]))
    refine own_dup X57 hx hby at_59 rfl (pc' := 60) rfl ?_
    refine own_callI X57 hx hby hZ (by exact hml) hown rfl (own_w hw 7 rfl) (own_w hw 8 rfl) (own_w hw 6 rfl) (own_w hw 9 rfl) (by decide) e57 6 (by decide) (by decide) (by decide) (by decide) (argsL := []) (rest := [(.ref b57), (.int f), (.int z), (.int n), (.ref b55), (.ref b55)]) (lenOf pd___V rfl) rfl (Nat.le_of_eq rfl) (rmAI l Z a0 hw b57 aD n0 h57 n0_b57 A57 F57_modCount F57_elementData F57_size S58_DEFAULTCAPACITY_EMPTY_ELEMENTDATA) at_60 (pc' := 63) rfl ?_
    intro v69 T69 L69 X69 hQ69
    obtain ⟨rfl, Nq69, K69, E69, FS69⟩ := hQ69
    have E70_b55 := E59_b55.keep K69
    have F71_graph := F60_graph.keep K69 (ninS ne_b55_b57 nin0)
    have F72_zoneCount := F61_zoneCount.keep K69 (ninS ne_b55_b57 nin0)
    have F73_firstThruNode := F62_firstThruNode.keep K69 (ninS ne_b55_b57 nin0)
    have F74_linkTail := F63_linkTail.keep K69 (ninS ne_b55_b57 nin0)
    have F75_linkArc := F64_linkArc.keep K69 (ninS ne_b55_b57 nin0)
    have F76_capacity := F65_capacity.keep K69 (ninS ne_b55_b57 nin0)
    have F77_freeFlowTime := F66_freeFlowTime.keep K69 (ninS ne_b55_b57 nin0)
    have F78_b := F67_b.keep K69 (ninS ne_b55_b57 nin0)
    have F79_power := F68_power.keep K69 (ninS ne_b55_b57 nin0)
    have N69 := Fr.app N0 Nq69
    have Z69 : n0 ≤ T69.heap.size := Nat.le_trans Z57 K69.1
    show GoP p e below Φ (T69.setTop (mkF m 63 #[.val (.int p1), .val (.int p2), .val (.int p3), .val (.int p4), .val (.int p5), .val (.int p6), .val (.int n), .val (.int z), .val (.int f), .val (.int f), .unset, .unset, .unset, .unset, .unset, .unset, .unset] [(.ref b57), (.int f), (.int z), (.int n), (.ref b55), (.ref b55)]))
    refine own_callI X69 hx hby hZ (by exact hml) hown rfl (own_w hw 30 rfl) (own_w hw 31 rfl) (own_w hw 3 rfl) (own_w hw 32 rfl) (by decide) rfl 1 (by decide) (by decide) (by decide) (by decide) (argsL := [(.int n), (.int z), (.int f), (.ref b57)]) (rest := [(.ref b55)]) (lenOf pd__IIILjava_util_List__V rfl) rfl (Nat.le_of_eq rfl) (rmT l Z a0 hw b55 n z f b57 n0 T69.heap n0_b55 Z69 hn1 hn2 (own_geI (by rw [own_z0]; omega)) (own_geI (by omega)) (own_geI (by rw [own_z0]; omega)) ne_b55_b57 E70_b55 E69 FS69 F71_graph F72_zoneCount F73_firstThruNode F74_linkTail F75_linkArc F76_capacity F77_freeFlowTime F78_b F79_power) at_63 (pc' := 66) rfl ?_
    intro v82 T82 L82 X82 hQ82
    obtain ⟨rfl, Nq82, K82, E82, FT82⟩ := hQ82
    have N82 := Fr.app N69 Nq82
    have Z82 : n0 ≤ T82.heap.size := Nat.le_trans Z69 K82.1
    show GoP p e below Φ (T82.setTop (mkF m 66 #[.val (.int p1), .val (.int p2), .val (.int p3), .val (.int p4), .val (.int p5), .val (.int p6), .val (.int n), .val (.int z), .val (.int f), .val (.int f), .unset, .unset, .unset, .unset, .unset, .unset, .unset] [(.ref b55)]))
    refine own_astore X82 hx hby at_66 rfl (Ls' := #[.val (.int p1), .val (.int p2), .val (.int p3), .val (.int p4), .val (.int p5), .val (.int p6), .val (.int n), .val (.int z), .val (.int f), .val (.int f), .val (.ref b55), .unset, .unset, .unset, .unset, .unset, .unset]) rfl (pc' := 68) rfl ?_
    refine own_iconst X82 hx hby at_68 (v := (1 : Int32)) rfl (pc' := 69) rfl ?_
    refine own_iloadN X82 hx hby at_69 rfl (pc' := 70) rfl ?_
    refine own_ldcI X82 hx hby hZ hown (own_w hw 0 rfl) at_70 (pc' := 72) rfl ?_
    refine own_iand X82 hx hby at_72 (pc' := 73) rfl ?_
    refine own_iload X82 hx hby at_73 rfl (pc' := 75) rfl ?_
    refine own_irem X82 hx hby at_75 (own_pos (by omega)) (pc' := 76) rfl ?_
    refine own_iadd X82 hx hby at_76 (pc' := 77) rfl ?_
    refine own_istore X82 hx hby at_77  (Ls' := #[.val (.int p1), .val (.int p2), .val (.int p3), .val (.int p4), .val (.int p5), .val (.int p6), .val (.int n), .val (.int z), .val (.int f), .val (.int f), .val (.ref b55), .val (.int ((1 : Int32) + ((p4 &&& (2147483647 : Int32)) % n))), .unset, .unset, .unset, .unset, .unset]) rfl (pc' := 79) rfl ?_
    refine own_iconst X82 hx hby at_79 (v := (1 : Int32)) rfl (pc' := 80) rfl ?_
    refine own_iload X82 hx hby at_80 rfl (pc' := 82) rfl ?_
    refine own_ldcI X82 hx hby hZ hown (own_w hw 0 rfl) at_82 (pc' := 84) rfl ?_
    refine own_iand X82 hx hby at_84 (pc' := 85) rfl ?_
    refine own_iload X82 hx hby at_85 rfl (pc' := 87) rfl ?_
    refine own_irem X82 hx hby at_87 (own_pos (by omega)) (pc' := 88) rfl ?_
    refine own_iadd X82 hx hby at_88 (pc' := 89) rfl ?_
    refine own_istore X82 hx hby at_89  (Ls' := #[.val (.int p1), .val (.int p2), .val (.int p3), .val (.int p4), .val (.int p5), .val (.int p6), .val (.int n), .val (.int z), .val (.int f), .val (.int f), .val (.ref b55), .val (.int ((1 : Int32) + ((p4 &&& (2147483647 : Int32)) % n))), .val (.int ((1 : Int32) + ((p5 &&& (2147483647 : Int32)) % n))), .unset, .unset, .unset, .unset]) rfl (pc' := 91) rfl ?_
    obtain ⟨xa, exa, gxa, kxa⟩ : ∃ q : Int32, q = ((1 : Int32) + ((p4 &&& (2147483647 : Int32)) % n)) ∧ 1 ≤ q.toInt ∧ q.toInt ≤ n.toInt := ⟨_, rfl, by have u := own_md (own_mx p4) (show 0 < n.toInt by omega); have w := own_one u.1 u.2 hn2; omega⟩
    rw [← exa]
    obtain ⟨xb, exb, gxb, kxb⟩ : ∃ q : Int32, q = ((1 : Int32) + ((p5 &&& (2147483647 : Int32)) % n)) ∧ 1 ≤ q.toInt ∧ q.toInt ≤ n.toInt := ⟨_, rfl, by have u := own_md (own_mx p5) (show 0 < n.toInt by omega); have w := own_one u.1 u.2 hn2; omega⟩
    rw [← exb]
    refine own_iload X82 hx hby at_91 rfl (pc' := 93) rfl ?_
    refine own_iload X82 hx hby at_93 rfl (pc' := 95) rfl ?_
    refine own_callS X82 hx hby hZ (by exact hml) hown (own_w hw 93 rfl) (own_w hw 94 rfl) (own_w hw 95 rfl) (own_w hw 96 rfl) (by decide) rfl 0 (by decide) (by decide) (by decide) (by decide) (argsL := [(.int xa), (.int xb)]) (rest := []) (lenOf pd__II_I rfl) rfl (rmMin l Z a0 hw xa xb T82.heap) (Nat.le_of_eq rfl) at_95 (pc' := 98) rfl ?_
    intro v91 T91 L91 X91 hQ91
    obtain ⟨rfl, rfl, e91⟩ := hQ91
    rw [List.append_nil] at X91
    replace e91 : T91.heap = T82.heap := e91
    show GoP p e below Φ (T91.setTop (mkF m 98 #[.val (.int p1), .val (.int p2), .val (.int p3), .val (.int p4), .val (.int p5), .val (.int p6), .val (.int n), .val (.int z), .val (.int f), .val (.int f), .val (.ref b55), .val (.int xa), .val (.int xb), .unset, .unset, .unset, .unset] [(.int (if xb < xa then xb else xa))]))
    refine own_istore X91 hx hby at_98  (Ls' := #[.val (.int p1), .val (.int p2), .val (.int p3), .val (.int p4), .val (.int p5), .val (.int p6), .val (.int n), .val (.int z), .val (.int f), .val (.int f), .val (.ref b55), .val (.int xa), .val (.int xb), .val (.int (if xb < xa then xb else xa)), .unset, .unset, .unset]) rfl (pc' := 100) rfl ?_
    refine own_iload X91 hx hby at_100 rfl (pc' := 102) rfl ?_
    refine own_iload X91 hx hby at_102 rfl (pc' := 104) rfl ?_
    refine own_callS X91 hx hby hZ (by exact hml) hown (own_w hw 97 rfl) (own_w hw 98 rfl) (own_w hw 95 rfl) (own_w hw 99 rfl) (by decide) e91 0 (by decide) (by decide) (by decide) (by decide) (argsL := [(.int xa), (.int xb)]) (rest := []) (lenOf pd__II_I rfl) rfl (rmMax l Z a0 hw xa xb T82.heap) (Nat.le_of_eq rfl) at_104 (pc' := 107) rfl ?_
    intro v92 T92 L92 X92 hQ92
    obtain ⟨rfl, rfl, e92⟩ := hQ92
    rw [List.append_nil] at X92
    replace e92 : T92.heap = T82.heap := e92
    show GoP p e below Φ (T92.setTop (mkF m 107 #[.val (.int p1), .val (.int p2), .val (.int p3), .val (.int p4), .val (.int p5), .val (.int p6), .val (.int n), .val (.int z), .val (.int f), .val (.int f), .val (.ref b55), .val (.int xa), .val (.int xb), .val (.int (if xb < xa then xb else xa)), .unset, .unset, .unset] [(.int (if xa < xb then xb else xa))]))
    refine own_istore X92 hx hby at_107  (Ls' := #[.val (.int p1), .val (.int p2), .val (.int p3), .val (.int p4), .val (.int p5), .val (.int p6), .val (.int n), .val (.int z), .val (.int f), .val (.int f), .val (.ref b55), .val (.int xa), .val (.int xb), .val (.int (if xb < xa then xb else xa)), .val (.int (if xa < xb then xb else xa)), .unset, .unset]) rfl (pc' := 109) rfl ?_
    have hlh := own_lohi xa xb
    generalize (if xb < xa then xb else xa) = lo at hlh ⊢
    generalize (if xa < xb then xb else xa) = hi at hlh ⊢
    refine own_aload X92 hx hby at_109 rfl rfl (pc' := 111) rfl ?_
    refine own_iload X92 hx hby at_111 rfl (pc' := 113) rfl ?_
    refine own_callV X92 hx hby hZ (by exact hml) hown (own_w hw 100 rfl) (own_w hw 101 rfl) (own_w hw 103 rfl) (own_w hw 102 rfl) (own_w hw 3 rfl) (own_w hw 104 rfl) (by decide) e92 0 (by decide) (by decide) (by decide) (by decide) (argsL := [(.int lo)]) (rest := []) (lenOf pd__I_Z rfl) rfl (Nat.le_of_eq rfl) E82 (rmTh l Z a0 hw b55 lo f T82.heap FT82) at_113 (pc' := 116) rfl ?_
    intro v93 T93 L93 X93 hQ93
    obtain ⟨rfl, rfl, e93⟩ := hQ93
    rw [List.append_nil] at X93
    replace e93 : T93.heap = T82.heap := e93
    show GoP p e below Φ (T93.setTop (mkF m 116 #[.val (.int p1), .val (.int p2), .val (.int p3), .val (.int p4), .val (.int p5), .val (.int p6), .val (.int n), .val (.int z), .val (.int f), .val (.int f), .val (.ref b55), .val (.int xa), .val (.int xb), .val (.int lo), .val (.int hi), .unset, .unset] [(.int (if lo < f then (0 : Int32) else (1 : Int32)))]))
    by_cases ht94 : lo < f
    · rw [if_pos ht94]
      refine own_ifY X93 hx hby at_116 ((if0 _ _).trans (teq (by decide)).1) (by decide) (pc' := 129) (by decide) ?_
      refine own_iconst X93 hx hby at_129 (v := (1 : Int32)) rfl (pc' := 130) rfl ?_
      refine own_goto X93 hx hby at_130 (by decide) (pc' := 134) (by decide) ?_
      refine own_istore X93 hx hby at_134  (Ls' := #[.val (.int p1), .val (.int p2), .val (.int p3), .val (.int p4), .val (.int p5), .val (.int p6), .val (.int n), .val (.int z), .val (.int f), .val (.int f), .val (.ref b55), .val (.int xa), .val (.int xb), .val (.int lo), .val (.int hi), .val (.int (1 : Int32)), .unset]) rfl (pc' := 136) rfl ?_
      refine own_iload X93 hx hby at_136 rfl (pc' := 138) rfl ?_
      refine own_iconst X93 hx hby at_138 (v := (1 : Int32)) rfl (pc' := 139) rfl ?_
      by_cases hc139_95 : (1 : Int32) < f
      · refine own_icmpY X93 hx hby at_139 (tlt hc139_95).2.2.1 (by decide) (pc' := 153) (by decide) ?_
        refine own_iload X93 hx hby at_153 rfl (pc' := 155) rfl ?_
        refine own_iload X93 hx hby at_155 rfl (pc' := 157) rfl ?_
        by_cases hc157_96 : n < f
        · refine own_icmpY X93 hx hby at_157 (tlt hc157_96).2.2.1 (by decide) (pc' := 192) (by decide) ?_
          refine own_aload X93 hx hby at_192 rfl rfl (pc' := 194) rfl ?_
          refine own_iload X93 hx hby at_194 rfl (pc' := 196) rfl ?_
          refine own_callV X93 hx hby hZ (by exact hml) hown (own_w hw 100 rfl) (own_w hw 101 rfl) (own_w hw 103 rfl) (own_w hw 102 rfl) (own_w hw 3 rfl) (own_w hw 104 rfl) (by decide) e93 0 (by decide) (by decide) (by decide) (by decide) (argsL := [(.int n)]) (rest := []) (lenOf pd__I_Z rfl) rfl (Nat.le_of_eq rfl) E82 (rmTh l Z a0 hw b55 n f T82.heap FT82) at_196 (pc' := 199) rfl ?_
          intro v97 T97 L97 X97 hQ97
          obtain ⟨rfl, rfl, e97⟩ := hQ97
          rw [List.append_nil] at X97
          replace e97 : T97.heap = T82.heap := e97
          show GoP p e below Φ (T97.setTop (mkF m 199 #[.val (.int p1), .val (.int p2), .val (.int p3), .val (.int p4), .val (.int p5), .val (.int p6), .val (.int n), .val (.int z), .val (.int f), .val (.int f), .val (.ref b55), .val (.int xa), .val (.int xb), .val (.int lo), .val (.int hi), .val (.int (1 : Int32)), .unset] [(.int (if n < f then (0 : Int32) else (1 : Int32)))]))
          rw [if_pos (show n < f from (by simp only [Int32.lt_iff_toInt_lt, own_z1] at *; omega))]
          refine own_ifN X97 hx hby at_199 ((if0 _ _).trans (teq (by decide)).2) (pc' := 202) rfl ?_
          refine own_iconst X97 hx hby at_202 (v := (1 : Int32)) rfl (pc' := 203) rfl ?_
          refine own_goto X97 hx hby at_203 (by decide) (pc' := 207) (by decide) ?_
          refine own_istore X97 hx hby at_207  (Ls' := #[.val (.int p1), .val (.int p2), .val (.int p3), .val (.int p4), .val (.int p5), .val (.int p6), .val (.int n), .val (.int z), .val (.int f), .val (.int f), .val (.ref b55), .val (.int xa), .val (.int xb), .val (.int lo), .val (.int hi), .val (.int (1 : Int32)), .val (.int (1 : Int32))]) rfl (pc' := 209) rfl ?_
          refine own_iload X97 hx hby at_209 rfl (pc' := 211) rfl ?_
          refine own_ifN X97 hx hby at_211 ((if0 _ _).trans (feq (by decide)).1) (pc' := 214) rfl ?_
          refine own_iload X97 hx hby at_214 rfl (pc' := 216) rfl ?_
          refine own_ifN X97 hx hby at_216 ((if0 _ _).trans (feq (by decide)).1) (pc' := 219) rfl ?_
          refine own_iconst X97 hx hby at_219 (v := (1 : Int32)) rfl (pc' := 220) rfl ?_
          refine own_goto X97 hx hby at_220 (by decide) (pc' := 224) (by decide) ?_
          exact own_retN X97 hx hby fin hret (by simp) rfl at_224 (by decide) (by decide) ⟨rfl, N82⟩
        · refine own_icmpN X93 hx hby at_157 (flt hc157_96).2.2.1 (pc' := 160) rfl ?_
          refine own_aload X93 hx hby at_160 rfl rfl (pc' := 162) rfl ?_
          refine own_iload X93 hx hby at_162 rfl (pc' := 164) rfl ?_
          refine own_callV X93 hx hby hZ (by exact hml) hown (own_w hw 100 rfl) (own_w hw 101 rfl) (own_w hw 103 rfl) (own_w hw 102 rfl) (own_w hw 3 rfl) (own_w hw 104 rfl) (by decide) e93 0 (by decide) (by decide) (by decide) (by decide) (argsL := [(.int f)]) (rest := []) (lenOf pd__I_Z rfl) rfl (Nat.le_of_eq rfl) E82 (rmTh l Z a0 hw b55 f f T82.heap FT82) at_164 (pc' := 167) rfl ?_
          intro v98 T98 L98 X98 hQ98
          obtain ⟨rfl, rfl, e98⟩ := hQ98
          rw [List.append_nil] at X98
          replace e98 : T98.heap = T82.heap := e98
          show GoP p e below Φ (T98.setTop (mkF m 167 #[.val (.int p1), .val (.int p2), .val (.int p3), .val (.int p4), .val (.int p5), .val (.int p6), .val (.int n), .val (.int z), .val (.int f), .val (.int f), .val (.ref b55), .val (.int xa), .val (.int xb), .val (.int lo), .val (.int hi), .val (.int (1 : Int32)), .unset] [(.int (if f < f then (0 : Int32) else (1 : Int32)))]))
          rw [if_neg (show ¬ f < f from (by simp only [Int32.lt_iff_toInt_lt, own_z1] at *; omega))]
          refine own_ifN X98 hx hby at_167 ((if0 _ _).trans (feq (by decide)).1) (pc' := 170) rfl ?_
          refine own_aload X98 hx hby at_170 rfl rfl (pc' := 172) rfl ?_
          refine own_iload X98 hx hby at_172 rfl (pc' := 174) rfl ?_
          refine own_iconst X98 hx hby at_174 (v := (1 : Int32)) rfl (pc' := 175) rfl ?_
          refine own_isub X98 hx hby at_175 (pc' := 176) rfl ?_
          refine own_callV X98 hx hby hZ (by exact hml) hown (own_w hw 100 rfl) (own_w hw 101 rfl) (own_w hw 103 rfl) (own_w hw 102 rfl) (own_w hw 3 rfl) (own_w hw 104 rfl) (by decide) e98 0 (by decide) (by decide) (by decide) (by decide) (argsL := [(.int (f - (1 : Int32)))]) (rest := []) (lenOf pd__I_Z rfl) rfl (Nat.le_of_eq rfl) E82 (rmTh l Z a0 hw b55 (f - (1 : Int32)) f T82.heap FT82) at_176 (pc' := 179) rfl ?_
          intro v99 T99 L99 X99 hQ99
          obtain ⟨rfl, rfl, e99⟩ := hQ99
          rw [List.append_nil] at X99
          replace e99 : T99.heap = T82.heap := e99
          show GoP p e below Φ (T99.setTop (mkF m 179 #[.val (.int p1), .val (.int p2), .val (.int p3), .val (.int p4), .val (.int p5), .val (.int p6), .val (.int n), .val (.int z), .val (.int f), .val (.int f), .val (.ref b55), .val (.int xa), .val (.int xb), .val (.int lo), .val (.int hi), .val (.int (1 : Int32)), .unset] [(.int (if (f - (1 : Int32)) < f then (0 : Int32) else (1 : Int32)))]))
          rw [if_pos (show (f - (1 : Int32)) < f from (by have u := own_sub32 (x := f) (y := (1 : Int32)) (k := f.toInt - 1) (by rw [own_z1]) (by omega) (by have := rng32 f; omega); simp only [Int32.lt_iff_toInt_lt, own_z1] at *; omega))]
          refine own_ifN X99 hx hby at_179 ((if0 _ _).trans (teq (by decide)).2) (pc' := 182) rfl ?_
          refine own_iconst X99 hx hby at_182 (v := (1 : Int32)) rfl (pc' := 183) rfl ?_
          refine own_goto X99 hx hby at_183 (by decide) (pc' := 187) (by decide) ?_
          refine own_istore X99 hx hby at_187  (Ls' := #[.val (.int p1), .val (.int p2), .val (.int p3), .val (.int p4), .val (.int p5), .val (.int p6), .val (.int n), .val (.int z), .val (.int f), .val (.int f), .val (.ref b55), .val (.int xa), .val (.int xb), .val (.int lo), .val (.int hi), .val (.int (1 : Int32)), .val (.int (1 : Int32))]) rfl (pc' := 189) rfl ?_
          refine own_goto X99 hx hby at_189 (by decide) (pc' := 209) (by decide) ?_
          refine own_iload X99 hx hby at_209 rfl (pc' := 211) rfl ?_
          refine own_ifN X99 hx hby at_211 ((if0 _ _).trans (feq (by decide)).1) (pc' := 214) rfl ?_
          refine own_iload X99 hx hby at_214 rfl (pc' := 216) rfl ?_
          refine own_ifN X99 hx hby at_216 ((if0 _ _).trans (feq (by decide)).1) (pc' := 219) rfl ?_
          refine own_iconst X99 hx hby at_219 (v := (1 : Int32)) rfl (pc' := 220) rfl ?_
          refine own_goto X99 hx hby at_220 (by decide) (pc' := 224) (by decide) ?_
          exact own_retN X99 hx hby fin hret (by simp) rfl at_224 (by decide) (by decide) ⟨rfl, N82⟩
      · refine own_icmpN X93 hx hby at_139 (flt hc139_95).2.2.1 (pc' := 142) rfl ?_
        refine own_aload X93 hx hby at_142 rfl rfl (pc' := 144) rfl ?_
        refine own_iconst X93 hx hby at_144 (v := (1 : Int32)) rfl (pc' := 145) rfl ?_
        refine own_callV X93 hx hby hZ (by exact hml) hown (own_w hw 100 rfl) (own_w hw 101 rfl) (own_w hw 103 rfl) (own_w hw 102 rfl) (own_w hw 3 rfl) (own_w hw 104 rfl) (by decide) e93 0 (by decide) (by decide) (by decide) (by decide) (argsL := [(.int (1 : Int32))]) (rest := []) (lenOf pd__I_Z rfl) rfl (Nat.le_of_eq rfl) E82 (rmTh l Z a0 hw b55 (1 : Int32) f T82.heap FT82) at_145 (pc' := 148) rfl ?_
        intro v100 T100 L100 X100 hQ100
        obtain ⟨rfl, rfl, e100⟩ := hQ100
        rw [List.append_nil] at X100
        replace e100 : T100.heap = T82.heap := e100
        show GoP p e below Φ (T100.setTop (mkF m 148 #[.val (.int p1), .val (.int p2), .val (.int p3), .val (.int p4), .val (.int p5), .val (.int p6), .val (.int n), .val (.int z), .val (.int f), .val (.int f), .val (.ref b55), .val (.int xa), .val (.int xb), .val (.int lo), .val (.int hi), .val (.int (1 : Int32)), .unset] [(.int (if (1 : Int32) < f then (0 : Int32) else (1 : Int32)))]))
        rw [if_neg (show ¬ (1 : Int32) < f from (by simp only [Int32.lt_iff_toInt_lt, own_z1] at *; omega))]
        refine own_istore X100 hx hby at_148  (Ls' := #[.val (.int p1), .val (.int p2), .val (.int p3), .val (.int p4), .val (.int p5), .val (.int p6), .val (.int n), .val (.int z), .val (.int f), .val (.int f), .val (.ref b55), .val (.int xa), .val (.int xb), .val (.int lo), .val (.int hi), .val (.int (1 : Int32)), .val (.int (1 : Int32))]) rfl (pc' := 150) rfl ?_
        refine own_goto X100 hx hby at_150 (by decide) (pc' := 209) (by decide) ?_
        refine own_iload X100 hx hby at_209 rfl (pc' := 211) rfl ?_
        refine own_ifN X100 hx hby at_211 ((if0 _ _).trans (feq (by decide)).1) (pc' := 214) rfl ?_
        refine own_iload X100 hx hby at_214 rfl (pc' := 216) rfl ?_
        refine own_ifN X100 hx hby at_216 ((if0 _ _).trans (feq (by decide)).1) (pc' := 219) rfl ?_
        refine own_iconst X100 hx hby at_219 (v := (1 : Int32)) rfl (pc' := 220) rfl ?_
        refine own_goto X100 hx hby at_220 (by decide) (pc' := 224) (by decide) ?_
        exact own_retN X100 hx hby fin hret (by simp) rfl at_224 (by decide) (by decide) ⟨rfl, N82⟩
    · rw [if_neg ht94]
      refine own_ifN X93 hx hby at_116 ((if0 _ _).trans (feq (by decide)).1) (pc' := 119) rfl ?_
      refine own_aload X93 hx hby at_119 rfl rfl (pc' := 121) rfl ?_
      refine own_iload X93 hx hby at_121 rfl (pc' := 123) rfl ?_
      refine own_callV X93 hx hby hZ (by exact hml) hown (own_w hw 100 rfl) (own_w hw 101 rfl) (own_w hw 103 rfl) (own_w hw 102 rfl) (own_w hw 3 rfl) (own_w hw 104 rfl) (by decide) e93 0 (by decide) (by decide) (by decide) (by decide) (argsL := [(.int hi)]) (rest := []) (lenOf pd__I_Z rfl) rfl (Nat.le_of_eq rfl) E82 (rmTh l Z a0 hw b55 hi f T82.heap FT82) at_123 (pc' := 126) rfl ?_
      intro v101 T101 L101 X101 hQ101
      obtain ⟨rfl, rfl, e101⟩ := hQ101
      rw [List.append_nil] at X101
      replace e101 : T101.heap = T82.heap := e101
      show GoP p e below Φ (T101.setTop (mkF m 126 #[.val (.int p1), .val (.int p2), .val (.int p3), .val (.int p4), .val (.int p5), .val (.int p6), .val (.int n), .val (.int z), .val (.int f), .val (.int f), .val (.ref b55), .val (.int xa), .val (.int xb), .val (.int lo), .val (.int hi), .unset, .unset] [(.int (if hi < f then (0 : Int32) else (1 : Int32)))]))
      rw [if_neg (show ¬ hi < f from (by simp only [Int32.lt_iff_toInt_lt, own_z1] at *; omega))]
      refine own_ifN X101 hx hby at_126 ((if0 _ _).trans (feq (by decide)).1) (pc' := 129) rfl ?_
      refine own_iconst X101 hx hby at_129 (v := (1 : Int32)) rfl (pc' := 130) rfl ?_
      refine own_goto X101 hx hby at_130 (by decide) (pc' := 134) (by decide) ?_
      refine own_istore X101 hx hby at_134  (Ls' := #[.val (.int p1), .val (.int p2), .val (.int p3), .val (.int p4), .val (.int p5), .val (.int p6), .val (.int n), .val (.int z), .val (.int f), .val (.int f), .val (.ref b55), .val (.int xa), .val (.int xb), .val (.int lo), .val (.int hi), .val (.int (1 : Int32)), .unset]) rfl (pc' := 136) rfl ?_
      refine own_iload X101 hx hby at_136 rfl (pc' := 138) rfl ?_
      refine own_iconst X101 hx hby at_138 (v := (1 : Int32)) rfl (pc' := 139) rfl ?_
      by_cases hc139_102 : (1 : Int32) < f
      · refine own_icmpY X101 hx hby at_139 (tlt hc139_102).2.2.1 (by decide) (pc' := 153) (by decide) ?_
        refine own_iload X101 hx hby at_153 rfl (pc' := 155) rfl ?_
        refine own_iload X101 hx hby at_155 rfl (pc' := 157) rfl ?_
        by_cases hc157_103 : n < f
        · refine own_icmpY X101 hx hby at_157 (tlt hc157_103).2.2.1 (by decide) (pc' := 192) (by decide) ?_
          refine own_aload X101 hx hby at_192 rfl rfl (pc' := 194) rfl ?_
          refine own_iload X101 hx hby at_194 rfl (pc' := 196) rfl ?_
          refine own_callV X101 hx hby hZ (by exact hml) hown (own_w hw 100 rfl) (own_w hw 101 rfl) (own_w hw 103 rfl) (own_w hw 102 rfl) (own_w hw 3 rfl) (own_w hw 104 rfl) (by decide) e101 0 (by decide) (by decide) (by decide) (by decide) (argsL := [(.int n)]) (rest := []) (lenOf pd__I_Z rfl) rfl (Nat.le_of_eq rfl) E82 (rmTh l Z a0 hw b55 n f T82.heap FT82) at_196 (pc' := 199) rfl ?_
          intro v104 T104 L104 X104 hQ104
          obtain ⟨rfl, rfl, e104⟩ := hQ104
          rw [List.append_nil] at X104
          replace e104 : T104.heap = T82.heap := e104
          show GoP p e below Φ (T104.setTop (mkF m 199 #[.val (.int p1), .val (.int p2), .val (.int p3), .val (.int p4), .val (.int p5), .val (.int p6), .val (.int n), .val (.int z), .val (.int f), .val (.int f), .val (.ref b55), .val (.int xa), .val (.int xb), .val (.int lo), .val (.int hi), .val (.int (1 : Int32)), .unset] [(.int (if n < f then (0 : Int32) else (1 : Int32)))]))
          rw [if_pos (show n < f from (by simp only [Int32.lt_iff_toInt_lt, own_z1] at *; omega))]
          refine own_ifN X104 hx hby at_199 ((if0 _ _).trans (teq (by decide)).2) (pc' := 202) rfl ?_
          refine own_iconst X104 hx hby at_202 (v := (1 : Int32)) rfl (pc' := 203) rfl ?_
          refine own_goto X104 hx hby at_203 (by decide) (pc' := 207) (by decide) ?_
          refine own_istore X104 hx hby at_207  (Ls' := #[.val (.int p1), .val (.int p2), .val (.int p3), .val (.int p4), .val (.int p5), .val (.int p6), .val (.int n), .val (.int z), .val (.int f), .val (.int f), .val (.ref b55), .val (.int xa), .val (.int xb), .val (.int lo), .val (.int hi), .val (.int (1 : Int32)), .val (.int (1 : Int32))]) rfl (pc' := 209) rfl ?_
          refine own_iload X104 hx hby at_209 rfl (pc' := 211) rfl ?_
          refine own_ifN X104 hx hby at_211 ((if0 _ _).trans (feq (by decide)).1) (pc' := 214) rfl ?_
          refine own_iload X104 hx hby at_214 rfl (pc' := 216) rfl ?_
          refine own_ifN X104 hx hby at_216 ((if0 _ _).trans (feq (by decide)).1) (pc' := 219) rfl ?_
          refine own_iconst X104 hx hby at_219 (v := (1 : Int32)) rfl (pc' := 220) rfl ?_
          refine own_goto X104 hx hby at_220 (by decide) (pc' := 224) (by decide) ?_
          exact own_retN X104 hx hby fin hret (by simp) rfl at_224 (by decide) (by decide) ⟨rfl, N82⟩
        · refine own_icmpN X101 hx hby at_157 (flt hc157_103).2.2.1 (pc' := 160) rfl ?_
          refine own_aload X101 hx hby at_160 rfl rfl (pc' := 162) rfl ?_
          refine own_iload X101 hx hby at_162 rfl (pc' := 164) rfl ?_
          refine own_callV X101 hx hby hZ (by exact hml) hown (own_w hw 100 rfl) (own_w hw 101 rfl) (own_w hw 103 rfl) (own_w hw 102 rfl) (own_w hw 3 rfl) (own_w hw 104 rfl) (by decide) e101 0 (by decide) (by decide) (by decide) (by decide) (argsL := [(.int f)]) (rest := []) (lenOf pd__I_Z rfl) rfl (Nat.le_of_eq rfl) E82 (rmTh l Z a0 hw b55 f f T82.heap FT82) at_164 (pc' := 167) rfl ?_
          intro v105 T105 L105 X105 hQ105
          obtain ⟨rfl, rfl, e105⟩ := hQ105
          rw [List.append_nil] at X105
          replace e105 : T105.heap = T82.heap := e105
          show GoP p e below Φ (T105.setTop (mkF m 167 #[.val (.int p1), .val (.int p2), .val (.int p3), .val (.int p4), .val (.int p5), .val (.int p6), .val (.int n), .val (.int z), .val (.int f), .val (.int f), .val (.ref b55), .val (.int xa), .val (.int xb), .val (.int lo), .val (.int hi), .val (.int (1 : Int32)), .unset] [(.int (if f < f then (0 : Int32) else (1 : Int32)))]))
          rw [if_neg (show ¬ f < f from (by simp only [Int32.lt_iff_toInt_lt, own_z1] at *; omega))]
          refine own_ifN X105 hx hby at_167 ((if0 _ _).trans (feq (by decide)).1) (pc' := 170) rfl ?_
          refine own_aload X105 hx hby at_170 rfl rfl (pc' := 172) rfl ?_
          refine own_iload X105 hx hby at_172 rfl (pc' := 174) rfl ?_
          refine own_iconst X105 hx hby at_174 (v := (1 : Int32)) rfl (pc' := 175) rfl ?_
          refine own_isub X105 hx hby at_175 (pc' := 176) rfl ?_
          refine own_callV X105 hx hby hZ (by exact hml) hown (own_w hw 100 rfl) (own_w hw 101 rfl) (own_w hw 103 rfl) (own_w hw 102 rfl) (own_w hw 3 rfl) (own_w hw 104 rfl) (by decide) e105 0 (by decide) (by decide) (by decide) (by decide) (argsL := [(.int (f - (1 : Int32)))]) (rest := []) (lenOf pd__I_Z rfl) rfl (Nat.le_of_eq rfl) E82 (rmTh l Z a0 hw b55 (f - (1 : Int32)) f T82.heap FT82) at_176 (pc' := 179) rfl ?_
          intro v106 T106 L106 X106 hQ106
          obtain ⟨rfl, rfl, e106⟩ := hQ106
          rw [List.append_nil] at X106
          replace e106 : T106.heap = T82.heap := e106
          show GoP p e below Φ (T106.setTop (mkF m 179 #[.val (.int p1), .val (.int p2), .val (.int p3), .val (.int p4), .val (.int p5), .val (.int p6), .val (.int n), .val (.int z), .val (.int f), .val (.int f), .val (.ref b55), .val (.int xa), .val (.int xb), .val (.int lo), .val (.int hi), .val (.int (1 : Int32)), .unset] [(.int (if (f - (1 : Int32)) < f then (0 : Int32) else (1 : Int32)))]))
          rw [if_pos (show (f - (1 : Int32)) < f from (by have u := own_sub32 (x := f) (y := (1 : Int32)) (k := f.toInt - 1) (by rw [own_z1]) (by omega) (by have := rng32 f; omega); simp only [Int32.lt_iff_toInt_lt, own_z1] at *; omega))]
          refine own_ifN X106 hx hby at_179 ((if0 _ _).trans (teq (by decide)).2) (pc' := 182) rfl ?_
          refine own_iconst X106 hx hby at_182 (v := (1 : Int32)) rfl (pc' := 183) rfl ?_
          refine own_goto X106 hx hby at_183 (by decide) (pc' := 187) (by decide) ?_
          refine own_istore X106 hx hby at_187  (Ls' := #[.val (.int p1), .val (.int p2), .val (.int p3), .val (.int p4), .val (.int p5), .val (.int p6), .val (.int n), .val (.int z), .val (.int f), .val (.int f), .val (.ref b55), .val (.int xa), .val (.int xb), .val (.int lo), .val (.int hi), .val (.int (1 : Int32)), .val (.int (1 : Int32))]) rfl (pc' := 189) rfl ?_
          refine own_goto X106 hx hby at_189 (by decide) (pc' := 209) (by decide) ?_
          refine own_iload X106 hx hby at_209 rfl (pc' := 211) rfl ?_
          refine own_ifN X106 hx hby at_211 ((if0 _ _).trans (feq (by decide)).1) (pc' := 214) rfl ?_
          refine own_iload X106 hx hby at_214 rfl (pc' := 216) rfl ?_
          refine own_ifN X106 hx hby at_216 ((if0 _ _).trans (feq (by decide)).1) (pc' := 219) rfl ?_
          refine own_iconst X106 hx hby at_219 (v := (1 : Int32)) rfl (pc' := 220) rfl ?_
          refine own_goto X106 hx hby at_220 (by decide) (pc' := 224) (by decide) ?_
          exact own_retN X106 hx hby fin hret (by simp) rfl at_224 (by decide) (by decide) ⟨rfl, N82⟩
      · refine own_icmpN X101 hx hby at_139 (flt hc139_102).2.2.1 (pc' := 142) rfl ?_
        refine own_aload X101 hx hby at_142 rfl rfl (pc' := 144) rfl ?_
        refine own_iconst X101 hx hby at_144 (v := (1 : Int32)) rfl (pc' := 145) rfl ?_
        refine own_callV X101 hx hby hZ (by exact hml) hown (own_w hw 100 rfl) (own_w hw 101 rfl) (own_w hw 103 rfl) (own_w hw 102 rfl) (own_w hw 3 rfl) (own_w hw 104 rfl) (by decide) e101 0 (by decide) (by decide) (by decide) (by decide) (argsL := [(.int (1 : Int32))]) (rest := []) (lenOf pd__I_Z rfl) rfl (Nat.le_of_eq rfl) E82 (rmTh l Z a0 hw b55 (1 : Int32) f T82.heap FT82) at_145 (pc' := 148) rfl ?_
        intro v107 T107 L107 X107 hQ107
        obtain ⟨rfl, rfl, e107⟩ := hQ107
        rw [List.append_nil] at X107
        replace e107 : T107.heap = T82.heap := e107
        show GoP p e below Φ (T107.setTop (mkF m 148 #[.val (.int p1), .val (.int p2), .val (.int p3), .val (.int p4), .val (.int p5), .val (.int p6), .val (.int n), .val (.int z), .val (.int f), .val (.int f), .val (.ref b55), .val (.int xa), .val (.int xb), .val (.int lo), .val (.int hi), .val (.int (1 : Int32)), .unset] [(.int (if (1 : Int32) < f then (0 : Int32) else (1 : Int32)))]))
        rw [if_neg (show ¬ (1 : Int32) < f from (by simp only [Int32.lt_iff_toInt_lt, own_z1] at *; omega))]
        refine own_istore X107 hx hby at_148  (Ls' := #[.val (.int p1), .val (.int p2), .val (.int p3), .val (.int p4), .val (.int p5), .val (.int p6), .val (.int n), .val (.int z), .val (.int f), .val (.int f), .val (.ref b55), .val (.int xa), .val (.int xb), .val (.int lo), .val (.int hi), .val (.int (1 : Int32)), .val (.int (1 : Int32))]) rfl (pc' := 150) rfl ?_
        refine own_goto X107 hx hby at_150 (by decide) (pc' := 209) (by decide) ?_
        refine own_iload X107 hx hby at_209 rfl (pc' := 211) rfl ?_
        refine own_ifN X107 hx hby at_211 ((if0 _ _).trans (feq (by decide)).1) (pc' := 214) rfl ?_
        refine own_iload X107 hx hby at_214 rfl (pc' := 216) rfl ?_
        refine own_ifN X107 hx hby at_216 ((if0 _ _).trans (feq (by decide)).1) (pc' := 219) rfl ?_
        refine own_iconst X107 hx hby at_219 (v := (1 : Int32)) rfl (pc' := 220) rfl ?_
        refine own_goto X107 hx hby at_220 (by decide) (pc' := 224) (by decide) ?_
        exact own_retN X107 hx hby fin hret (by simp) rfl at_224 (by decide) (by decide) ⟨rfl, N82⟩
set_option maxRecDepth 65536 in
set_option maxHeartbeats 40000000 in
theorem comes_1 {Post : Tables → Env → Array Value → State → Outcome → State → Prop} (hpost : ∀ tb e args s v u, (limb_1_1.after args s (.returned v) u = true ∧ limb_1_2.after args s (.returned v) u = true ∧ True) → FrameEnd s (.returned v) u (Jvm.fieldLocs frame_1_writes args s ++ Jvm.arrayLocs frame_1_arrays args s ++ Jvm.staticLocs frame_1_statics s) 40 256 → Post tb e args s (.returned v) u) :
    ArmFor flags0 classFile x code maxLocals ret World_1 tables_1 room_1 Calls_1 rest_1 Pre_1 Post := by
  intro l hfl _ _ p e ha hc hk s m args below hf hA hF happ hP
  obtain ⟨hcalls, hrest, hpre⟩ := hP
  obtain ⟨-, -, -, hnamed, -, -, -, hat⟩ := (Spec.applies_iff hf).mp happ
  obtain ⟨hg, hn⟩ := and_e (Cond.before_iff.mp (show (Jvm.Cond.and given_1 narrow_1).before args s = true from hpre))
  obtain ⟨g0, hg⟩ := and_e hg
  obtain ⟨w0, w1, w2, w3, w4, w5, rfl⟩ : ∃ w0 w1 w2 w3 w4 w5 : Value, args = #[w0, w1, w2, w3, w4, w5] := by
    have hs : args.size = 6 := by simpa [Cond.value, given_1] using g0
    obtain ⟨L⟩ := args
    match L, hs with
    | [w0, w1, w2, w3, w4, w5], _ => exact ⟨w0, w1, w2, w3, w4, w5, rfl⟩
  obtain ⟨q0, hg⟩ := and_e hg
  obtain ⟨q1, hg⟩ := and_e hg
  obtain ⟨q2, hg⟩ := and_e hg
  obtain ⟨q3, hg⟩ := and_e hg
  obtain ⟨q4, hg⟩ := and_e hg
  have q5 := hg
  have hw := fun d (hd : d ∈ tables_1) => atoms_spec (ws := Jvm.Cond.code x code maxLocals ret :: tables_1) hat d (List.mem_cons_of_mem _ hd)
  have hfit : Fit s := fun {y c} hc i hi => by
    obtain ⟨ha, rfl⟩ := Array.getElem?_eq_some_iff.mp hc
    have q := List.all_eq_true.mp ((Array.all_eq_true_iff_forall_mem.mp hF) _ (Array.getElem_mem ha)) i (List.mem_range.mpr hi)
    simpa [Array.getElem?_eq_getElem hi] using q
  have hsets := (atoms_of jdkStatics_1 (own := restOwn_1) (by rw [← rest_1_c_eq]; exact hrest)).1
  obtain ⟨i0, f0⟩ := is_v q0
  obtain rfl : w0 = (.int i0) := Option.some.inj f0
  obtain ⟨i1, f1⟩ := is_v q1
  obtain rfl : w1 = (.int i1) := Option.some.inj f1
  obtain ⟨i2, f2⟩ := is_v q2
  obtain rfl : w2 = (.int i2) := Option.some.inj f2
  obtain ⟨i3, f3⟩ := is_v q3
  obtain rfl : w3 = (.int i3) := Option.some.inj f3
  obtain ⟨i4, f4⟩ := is_v q4
  obtain rfl : w4 = (.int i4) := Option.some.inj f4
  obtain ⟨i5, f5⟩ := is_v q5
  obtain rfl : w5 = (.int i5) := Option.some.inj f5
  obtain ⟨aD, evD⟩ := exa_v (Cond.before_iff.mp (own_w hsets 7 rfl))
  have SD := Sta.start evD (Or.inr ⟨(own_w hw 6 rfl), own_w hsets 2 rfl⟩)
  obtain ⟨n, o, h1, h2, h3, _, L, rfl, ⟨rfl, N⟩, hq⟩ := rm0 l s _ hw i0 i1 i2 i3 i4 i5 aD s.heap.size s.heap (Nat.le_refl _) SD p e ha hc hk s m _ below hf ((Spec.applies_iff_loose hf).mp happ).1 ⟨rfl, State.Warmed39.refl s, rfl⟩ trivial
  refine ⟨n, _, h1, h2, h3, hpost _ _ _ _ _ _ ⟨Cond.after_iff.mpr rfl, Cond.after_iff.mpr (eq_i res_at (Term.int_eval (1)) rfl), trivial⟩ ⟨hq.1, hq.2.1, (hq.2.2.sift fun y hy => Or.inr (N y hy)).mono (by decide) (by decide)⟩⟩
theorem main_1_1 : Claimed_1_1 := comes_1 fun _ _ _ _ _ _ h hF => ⟨h.1, hF⟩
theorem main_1_2 : Claimed_1_2 := comes_1 fun _ _ _ _ _ _ h hF => ⟨h.2.1, hF⟩
end Jvm.Pilot.@@N@@
namespace Jvm.Pilot.@@N@@
open Jvm Jvm.ClassFile Sem Op Lib Jvm.Free Jvm.Stand Jvm.Pilot.@@N@@.Jvm.D
/-! MADE BY PROGRAM (witnessworld.py) out of the Statement's table words and the real class files: 23 classes; the members and pool entries that the words name. The judged class is class 1, her method 1. -/
namespace start1
open Jvm.ClassFile
def u (s : String) : CpInfo := .utf8 (stringToUtf16 s)
/-- a pool by its gaps: so many unusable entries, then the entry; so many at the end -/
def gap : Nat → List CpInfo → List CpInfo
  | 0, r => r
  | n + 1, r => .unusable :: gap n r
def poolList (es : List (Nat × CpInfo)) (last : Nat) : List CpInfo := es.foldr (fun e r => gap e.1 (e.2 :: r)) (gap last [])
def pool (es : List (Nat × CpInfo)) (last : Nat) : Array CpInfo := ⟨poolList es last⟩
def fileOf (pool : Array CpInfo) (this : Nat) (attrs : Array Attribute := #[]) (ms : Array MethodInfo := #[]) (fl : Nat := 33) (sup : Nat := 0) (ifs : Array Nat := #[]) (fds : Array FieldInfo := #[]) : ClassFile where
  minorVersion := 0
  majorVersion := 65
  constantPool := pool
  accessFlags := fl
  thisClass := this
  superClass := sup
  interfaces := ifs
  fields := fds
  methods := ms
  attributes := attrs
def plain (name : String) (sup : Option ClassId) : Class where
  name := name
  kind := .ordinary
  loader := none
  accessFlags := 33
  super := sup
  interfaces := #[]
  cf := none
  fields := #[]
  methods := #[]
  instanceTypes := #[]
  staticTypes := #[]
  resolved := #[]
  callSites := []
  init := .initialized
  statics := none
  mirror := none

def pool0 : Array CpInfo := pool [(5, u "<init>"), (0, u "()V"), (1, .class_ 10), (1, u "java/lang/Object")] 113

def k0c0 : Code := { maxStack := 0, maxLocals := 1, code := object_method_1_code, exceptionTable := #[], attributes := #[] }
def k0m0 : Method := { name := "<init>", desc := "()V", sig := { parameters := [], returnType := none }, accessFlags := 1, code := some k0c0 }
/-- java/lang/Object -/
def k0 : Class := { plain "java/lang/Object" none with
  accessFlags := 33
  interfaces := #[]
  cf := some (fileOf pool0 8 #[] #[{ accessFlags := 1, nameIndex := 5, descriptorIndex := 6, attributes := #[] }] 33 0 #[] #[])
  fields := #[]
  methods := #[k0m0]
  instanceTypes := #[]
  staticTypes := #[]
  resolved := Array.replicate 124 none
  statics := none }

def pool1 : Array CpInfo := pool [(2, .class_ 4), (0, .nameAndType 5 6), (0, u "java/lang/Object"), (0, u "<init>"), (0, u "()V"), (0, .integer 2147483647), (0, .class_ 9), (0, u "com/example/wayfold/wayfold/TrafficNetwork"), (0, .class_ 11), (0, u "java/util/ArrayList"), (0, .methodref 10 3), (0, .methodref 8 14), (0, .nameAndType 5 15), (0, u "(IIILjava/util/List;)V"), (0, .methodref 17 18), (0, .class_ 19), (0, .nameAndType 20 21), (0, u "java/lang/Math"), (0, u "min"), (0, u "(II)I"), (0, .methodref 17 23), (0, .nameAndType 24 21), (0, u "max"), (0, .methodref 8 26), (0, .nameAndType 27 28), (0, u "thru"), (0, u "(I)Z"), (0, .class_ 30), (0, u "com/example/wayfold/wayfold/TrafficNetworkThruPinLaw"), (2, u "law"), (0, u "(IIIIII)Z")] 3

def k1m0 : Method := { name := "<init>", desc := "()V", sig := { parameters := [], returnType := none }, accessFlags := 1, code := none }
def k1c1 : Code := { maxStack := 7, maxLocals := 17, code := code, exceptionTable := #[], attributes := #[] }
def k1m1 : Method := { name := "law", desc := "(IIIIII)Z", sig := { parameters := [.int, .int, .int, .int, .int, .int], returnType := some .boolean }, accessFlags := 9, code := some k1c1 }
/-- com/example/wayfold/wayfold/TrafficNetworkThruPinLaw -/
def k1 : Class := { plain "com/example/wayfold/wayfold/TrafficNetworkThruPinLaw" (some 0) with
  accessFlags := 49
  interfaces := #[]
  cf := some (fileOf pool1 29 #[] #[{ accessFlags := 1, nameIndex := 5, descriptorIndex := 6, attributes := #[] }, { accessFlags := 9, nameIndex := 33, descriptorIndex := 34, attributes := #[] }] 49 2 #[] #[])
  fields := #[]
  methods := #[k1m0, k1m1]
  instanceTypes := #[]
  staticTypes := #[]
  resolved := Array.replicate 38 none
  statics := none }

def pool2 : Array CpInfo := pool [(1, .methodref 2 3), (0, .class_ 4), (0, .nameAndType 5 6), (0, u "java/lang/Object"), (0, u "<init>"), (0, u "()V"), (9, .interfaceMethodref 17 18), (0, .class_ 19), (0, .nameAndType 20 21), (0, u "java/util/List"), (0, u "size"), (0, u "()I"), (4, .class_ 27), (0, u "com/example/wayfold/wayfold/TrafficNetwork$Link"), (2, u "capacity"), (3, u "freeFlowTime"), (2, u "b"), (2, u "power"), (15, .methodref 57 58), (0, .class_ 59), (0, .nameAndType 60 61), (0, u "com/example/wayfold/wayfold/Graph"), (0, u "of"), (0, u "(II[I[I[J)Lcom/example/wayfold/wayfold/Graph;"), (0, .fieldref 63 64), (0, .class_ 65), (0, .nameAndType 66 67), (0, u "com/example/wayfold/wayfold/TrafficNetwork"), (0, u "graph"), (0, u "Lcom/example/wayfold/wayfold/Graph;"), (0, .fieldref 63 69), (0, .nameAndType 70 71), (0, u "zoneCount"), (0, u "I"), (0, .fieldref 63 73), (0, .nameAndType 74 71), (0, u "firstThruNode"), (0, .fieldref 63 76), (0, .nameAndType 77 78), (0, u "linkTail"), (0, u "[I"), (0, .fieldref 63 80), (0, .nameAndType 81 78), (0, u "linkArc"), (0, .methodref 57 83), (0, .nameAndType 84 85), (0, u "firstArc"), (0, u "(I)I"), (0, .fieldref 63 87), (0, .nameAndType 30 88), (0, u "[D"), (0, .fieldref 63 90), (0, .nameAndType 34 88), (0, .fieldref 63 92), (0, .nameAndType 37 88), (0, .fieldref 63 94), (0, .nameAndType 40 88), (25, u "MAX_SQUARED_POWER"), (0, u "D"), (1, u "(IIILjava/util/List;)V"), (7, u "thru"), (0, u "(I)Z")] 29

def k2c0 : Code := { maxStack := 6, maxLocals := 12, code := prog_57_method_1_code, exceptionTable := #[], attributes := #[] }
def k2m0 : Method := { name := "<init>", desc := "(IIILjava/util/List;)V", sig := { parameters := [.int, .int, .int, (.object "java/util/List")], returnType := none }, accessFlags := 0, code := some k2c0 }
def k2c1 : Code := { maxStack := 2, maxLocals := 2, code := prog_57_method_4_code, exceptionTable := #[], attributes := #[] }
def k2m1 : Method := { name := "thru", desc := "(I)Z", sig := { parameters := [.int], returnType := some .boolean }, accessFlags := 0, code := some k2c1 }
/-- com/example/wayfold/wayfold/TrafficNetwork -/
def k2 : Class := { plain "com/example/wayfold/wayfold/TrafficNetwork" (some 0) with
  accessFlags := 48
  interfaces := #[]
  cf := some (fileOf pool2 63 #[.nestMembers #[26]] #[{ accessFlags := 0, nameIndex := 5, descriptorIndex := 123, attributes := #[] }, { accessFlags := 0, nameIndex := 131, descriptorIndex := 132, attributes := #[] }] 48 2 #[] #[{ accessFlags := 26, nameIndex := 120, descriptorIndex := 121, attributes := #[] }, { accessFlags := 18, nameIndex := 66, descriptorIndex := 67, attributes := #[] }, { accessFlags := 18, nameIndex := 70, descriptorIndex := 71, attributes := #[] }, { accessFlags := 18, nameIndex := 74, descriptorIndex := 71, attributes := #[] }, { accessFlags := 18, nameIndex := 77, descriptorIndex := 78, attributes := #[] }, { accessFlags := 18, nameIndex := 81, descriptorIndex := 78, attributes := #[] }, { accessFlags := 18, nameIndex := 30, descriptorIndex := 88, attributes := #[] }, { accessFlags := 18, nameIndex := 34, descriptorIndex := 88, attributes := #[] }, { accessFlags := 18, nameIndex := 37, descriptorIndex := 88, attributes := #[] }, { accessFlags := 18, nameIndex := 40, descriptorIndex := 88, attributes := #[] }])
  fields := #[{ name := "MAX_SQUARED_POWER", type := .double, accessFlags := 26, slot := 0, constantValue := 0 }, { name := "graph", type := (.object "com/example/wayfold/wayfold/Graph"), accessFlags := 18, slot := 0, constantValue := 0 }, { name := "zoneCount", type := .int, accessFlags := 18, slot := 1, constantValue := 0 }, { name := "firstThruNode", type := .int, accessFlags := 18, slot := 2, constantValue := 0 }, { name := "linkTail", type := (.array .int), accessFlags := 18, slot := 3, constantValue := 0 }, { name := "linkArc", type := (.array .int), accessFlags := 18, slot := 4, constantValue := 0 }, { name := "capacity", type := (.array .double), accessFlags := 18, slot := 5, constantValue := 0 }, { name := "freeFlowTime", type := (.array .double), accessFlags := 18, slot := 6, constantValue := 0 }, { name := "b", type := (.array .double), accessFlags := 18, slot := 7, constantValue := 0 }, { name := "power", type := (.array .double), accessFlags := 18, slot := 8, constantValue := 0 }]
  methods := #[k2m0, k2m1]
  instanceTypes := #[(.object "com/example/wayfold/wayfold/Graph"), .int, .int, (.array .int), (.array .int), (.array .double), (.array .double), (.array .double), (.array .double)]
  staticTypes := #[.double]
  resolved := Array.replicate 162 none
  statics := none }

def pool3 : Array CpInfo := pool [(8, .class_ 10), (1, u "java/lang/Iterable"), (24, .class_ 36), (0, u "java/lang/Object")] 25

/-- java/lang/Iterable -/
def k3 : Class := { plain "java/lang/Iterable" (some 0) with
  accessFlags := 1537
  interfaces := #[]
  cf := some (fileOf pool3 8 #[] #[] 1537 35 #[] #[])
  fields := #[]
  methods := #[]
  instanceTypes := #[]
  staticTypes := #[]
  resolved := Array.replicate 62 none
  statics := none }

def pool4 : Array CpInfo := pool [(10, .class_ 12), (1, u "java/util/Collection"), (47, .class_ 61), (0, u "java/lang/Object"), (0, .class_ 63), (0, u "java/lang/Iterable")] 51

/-- java/util/Collection -/
def k4 : Class := { plain "java/util/Collection" (some 0) with
  accessFlags := 1537
  interfaces := #[3]
  cf := some (fileOf pool4 10 #[] #[] 1537 60 #[62] #[])
  fields := #[]
  methods := #[]
  instanceTypes := #[]
  staticTypes := #[]
  resolved := Array.replicate 115 none
  statics := none }

def pool5 : Array CpInfo := pool [(1, .methodref 2 3), (0, .class_ 4), (0, .nameAndType 5 6), (0, u "java/lang/Object"), (0, u "<init>"), (0, u "()V"), (1, .class_ 10), (1, u "java/util/AbstractCollection"), (66, .class_ 78), (0, u "java/util/Collection")] 81

def k5c0 : Code := { maxStack := 1, maxLocals := 1, code := jdk_22_method_1_code, exceptionTable := #[], attributes := #[] }
def k5m0 : Method := { name := "<init>", desc := "()V", sig := { parameters := [], returnType := none }, accessFlags := 4, code := some k5c0 }
/-- java/util/AbstractCollection -/
def k5 : Class := { plain "java/util/AbstractCollection" (some 0) with
  accessFlags := 1057
  interfaces := #[4]
  cf := some (fileOf pool5 8 #[] #[{ accessFlags := 4, nameIndex := 5, descriptorIndex := 6, attributes := #[] }] 1057 2 #[77] #[])
  fields := #[]
  methods := #[k5m0]
  instanceTypes := #[]
  staticTypes := #[]
  resolved := Array.replicate 160 none
  statics := none }

def pool6 : Array CpInfo := pool [(8, .class_ 10), (1, u "java/util/SequencedCollection"), (15, .class_ 27), (0, u "java/lang/Object"), (0, .class_ 29), (0, u "java/util/Collection")] 27

/-- java/util/SequencedCollection -/
def k6 : Class := { plain "java/util/SequencedCollection" (some 0) with
  accessFlags := 1537
  interfaces := #[4]
  cf := some (fileOf pool6 8 #[] #[] 1537 26 #[28] #[])
  fields := #[]
  methods := #[]
  instanceTypes := #[]
  staticTypes := #[]
  resolved := Array.replicate 57 none
  statics := none }

def pool7 : Array CpInfo := pool [(8, .class_ 10), (1, u "java/util/List"), (68, u "size"), (0, u "()I"), (22, .class_ 104), (0, u "java/lang/Object"), (15, .class_ 121), (0, u "java/util/SequencedCollection")] 129

def k7m0 : Method := { name := "size", desc := "()I", sig := { parameters := [], returnType := some .int }, accessFlags := 1025, code := none }
/-- java/util/List -/
def k7 : Class := { plain "java/util/List" (some 0) with
  accessFlags := 1537
  interfaces := #[6]
  cf := some (fileOf pool7 8 #[] #[{ accessFlags := 1025, nameIndex := 79, descriptorIndex := 80, attributes := #[] }] 1537 103 #[120] #[])
  fields := #[]
  methods := #[k7m0]
  instanceTypes := #[]
  staticTypes := #[]
  resolved := Array.replicate 251 none
  statics := none }

def pool8 : Array CpInfo := pool [(1, .methodref 2 3), (0, .class_ 4), (0, .nameAndType 5 6), (0, u "java/util/AbstractCollection"), (0, u "<init>"), (0, u "()V"), (0, .fieldref 8 9), (0, .class_ 10), (0, .nameAndType 11 12), (0, u "java/util/AbstractList"), (0, u "modCount"), (0, u "I"), (64, .class_ 78), (0, u "java/util/AbstractList$Itr"), (3, .class_ 83), (0, u "java/util/AbstractList$ListItr"), (9, .class_ 94), (0, u "java/util/AbstractList$RandomAccessSubList"), (3, .class_ 99), (0, u "java/util/AbstractList$SubList"), (33, .class_ 134), (0, u "java/util/List"), (73, .class_ 209), (0, u "java/util/AbstractList$SubList$1"), (0, .class_ 211), (0, u "java/util/AbstractList$RandomAccessSpliterator")] 6

def k8c0 : Code := { maxStack := 2, maxLocals := 1, code := jdk_39_method_1_code, exceptionTable := #[], attributes := #[] }
def k8m0 : Method := { name := "<init>", desc := "()V", sig := { parameters := [], returnType := none }, accessFlags := 4, code := some k8c0 }
/-- java/util/AbstractList -/
def k8 : Class := { plain "java/util/AbstractList" (some 5) with
  accessFlags := 1057
  interfaces := #[7]
  cf := some (fileOf pool8 8 #[.nestMembers #[93, 98, 208, 210, 82, 77]] #[{ accessFlags := 4, nameIndex := 5, descriptorIndex := 6, attributes := #[] }] 1057 2 #[133] #[{ accessFlags := 132, nameIndex := 11, descriptorIndex := 12, attributes := #[] }])
  fields := #[{ name := "modCount", type := .int, accessFlags := 132, slot := 0, constantValue := 0 }]
  methods := #[k8m0]
  instanceTypes := #[.int]
  staticTypes := #[]
  resolved := Array.replicate 218 none
  statics := none }

def pool9 : Array CpInfo := pool [(1, .class_ 2), (0, u "java/util/RandomAccess"), (0, .class_ 4), (0, u "java/lang/Object")] 2

/-- java/util/RandomAccess -/
def k9 : Class := { plain "java/util/RandomAccess" (some 0) with
  accessFlags := 1537
  interfaces := #[]
  cf := some (fileOf pool9 1 #[] #[] 1537 3 #[] #[])
  fields := #[]
  methods := #[]
  instanceTypes := #[]
  staticTypes := #[]
  resolved := Array.replicate 7 none
  statics := none }

def pool10 : Array CpInfo := pool [(1, .class_ 2), (0, u "java/lang/Cloneable"), (0, .class_ 4), (0, u "java/lang/Object")] 2

/-- java/lang/Cloneable -/
def k10 : Class := { plain "java/lang/Cloneable" (some 0) with
  accessFlags := 1537
  interfaces := #[]
  cf := some (fileOf pool10 1 #[] #[] 1537 3 #[] #[])
  fields := #[]
  methods := #[]
  instanceTypes := #[]
  staticTypes := #[]
  resolved := Array.replicate 7 none
  statics := none }

def pool11 : Array CpInfo := pool [(1, .class_ 2), (0, u "java/io/Serializable"), (0, .class_ 4), (0, u "java/lang/Object")] 2

/-- java/io/Serializable -/
def k11 : Class := { plain "java/io/Serializable" (some 0) with
  accessFlags := 1537
  interfaces := #[]
  cf := some (fileOf pool11 1 #[] #[] 1537 3 #[] #[])
  fields := #[]
  methods := #[]
  instanceTypes := #[]
  staticTypes := #[]
  resolved := Array.replicate 7 none
  statics := none }

def pool12 : Array CpInfo := pool [(1, .methodref 2 3), (0, .class_ 4), (0, .nameAndType 5 6), (0, u "java/util/AbstractList"), (0, u "<init>"), (0, u "()V"), (2, .fieldref 10 11), (0, .class_ 12), (0, .nameAndType 13 14), (0, u "java/util/ArrayList"), (0, u "elementData"), (0, u "[Ljava/lang/Object;"), (2, u "EMPTY_ELEMENTDATA"), (21, .fieldref 10 40), (0, .nameAndType 41 14), (0, u "DEFAULTCAPACITY_EMPTY_ELEMENTDATA"), (6, .fieldref 10 49), (0, .nameAndType 50 51), (0, u "size"), (0, u "I"), (96, .class_ 149), (0, u "java/util/List"), (36, u "()I"), (75, .class_ 263), (0, u "java/util/ArrayList$ListItr"), (3, .class_ 268), (0, u "java/util/ArrayList$Itr"), (7, .class_ 277), (0, u "java/util/ArrayList$SubList"), (12, .class_ 291), (0, u "java/util/ArrayList$ArrayListSpliterator"), (37, .class_ 330), (0, u "java/util/RandomAccess"), (0, .class_ 332), (0, u "java/lang/Cloneable"), (0, .class_ 334), (0, u "java/io/Serializable"), (0, u "serialVersionUID"), (0, u "J"), (3, u "DEFAULT_CAPACITY"), (159, .class_ 501), (0, u "java/util/ArrayList$SubList$2"), (0, .class_ 503), (0, u "java/util/ArrayList$SubList$1")] 5

def k12c0 : Code := { maxStack := 2, maxLocals := 1, code := jdk_38_method_2_code, exceptionTable := #[], attributes := #[] }
def k12m0 : Method := { name := "<init>", desc := "()V", sig := { parameters := [], returnType := none }, accessFlags := 1, code := some k12c0 }
def k12c1 : Code := { maxStack := 1, maxLocals := 1, code := jdk_38_method_8_code, exceptionTable := #[], attributes := #[] }
def k12m1 : Method := { name := "size", desc := "()I", sig := { parameters := [], returnType := some .int }, accessFlags := 1, code := some k12c1 }
/-- java/util/ArrayList -/
def k12 : Class := { plain "java/util/ArrayList" (some 8) with
  accessFlags := 33
  interfaces := #[7, 9, 10, 11]
  cf := some (fileOf pool12 10 #[.nestMembers #[290, 276, 500, 502, 262, 267]] #[{ accessFlags := 1, nameIndex := 5, descriptorIndex := 6, attributes := #[] }, { accessFlags := 1, nameIndex := 50, descriptorIndex := 186, attributes := #[] }] 33 2 #[148, 329, 331, 333] #[{ accessFlags := 26, nameIndex := 335, descriptorIndex := 336, attributes := #[] }, { accessFlags := 26, nameIndex := 340, descriptorIndex := 51, attributes := #[] }, { accessFlags := 26, nameIndex := 17, descriptorIndex := 14, attributes := #[] }, { accessFlags := 26, nameIndex := 41, descriptorIndex := 14, attributes := #[] }, { accessFlags := 128, nameIndex := 13, descriptorIndex := 14, attributes := #[] }, { accessFlags := 2, nameIndex := 50, descriptorIndex := 51, attributes := #[] }])
  fields := #[{ name := "serialVersionUID", type := .long, accessFlags := 26, slot := 0, constantValue := 0 }, { name := "DEFAULT_CAPACITY", type := .int, accessFlags := 26, slot := 1, constantValue := 0 }, { name := "EMPTY_ELEMENTDATA", type := (.array (.object "java/lang/Object")), accessFlags := 26, slot := 2, constantValue := 0 }, { name := "DEFAULTCAPACITY_EMPTY_ELEMENTDATA", type := (.array (.object "java/lang/Object")), accessFlags := 26, slot := 3, constantValue := 0 }, { name := "elementData", type := (.array (.object "java/lang/Object")), accessFlags := 128, slot := 1, constantValue := 0 }, { name := "size", type := .int, accessFlags := 2, slot := 2, constantValue := 0 }]
  methods := #[k12m0, k12m1]
  instanceTypes := #[.int, (.array (.object "java/lang/Object")), .int]
  staticTypes := #[.long, .int, (.array (.object "java/lang/Object")), (.array (.object "java/lang/Object"))]
  resolved := Array.replicate 509 none
  statics := some 0 }

def pool13 : Array CpInfo := pool [(5, .methodref 6 7), (0, .class_ 8), (0, .nameAndType 9 10), (0, u "java/lang/Object"), (0, u "<init>"), (0, u "()V"), (0, .fieldref 12 13), (0, .class_ 14), (0, .nameAndType 15 16), (0, u "com/example/wayfold/wayfold/Graph"), (0, u "nodeCount"), (0, u "I"), (0, .fieldref 12 18), (0, .nameAndType 19 20), (0, u "firstArc"), (0, u "[I"), (0, .fieldref 12 22), (0, .nameAndType 23 20), (0, u "arcHead"), (0, .fieldref 12 25), (0, .nameAndType 26 27), (0, u "arcWeight"), (0, u "[J"), (22, .methodref 51 52), (0, .class_ 53), (0, .nameAndType 54 55), (0, u "java/lang/System"), (0, u "arraycopy"), (0, u "(Ljava/lang/Object;ILjava/lang/Object;II)V"), (0, .methodref 12 57), (0, .nameAndType 9 58), (0, u "(I[I[I[J)V"), (21, u "of"), (0, u "(II[I[I[J)Lcom/example/wayfold/wayfold/Graph;"), (7, .class_ 90), (0, u "com/example/wayfold/wayfold/Graph$Reversal"), (4, u "WEIGHT_LIMIT"), (0, u "Ljava/lang/String;"), (1, u "MAX_NODES"), (12, u "(I)I")] 29

def k13c0 : Code := { maxStack := 2, maxLocals := 5, code := prog_19_method_1_code, exceptionTable := #[], attributes := #[] }
def k13m0 : Method := { name := "<init>", desc := "(I[I[I[J)V", sig := { parameters := [.int, (.array .int), (.array .int), (.array .long)], returnType := none }, accessFlags := 2, code := some k13c0 }
def k13c1 : Code := { maxStack := 6, maxLocals := 13, code := prog_19_method_2_code, exceptionTable := #[], attributes := #[] }
def k13m1 : Method := { name := "of", desc := "(II[I[I[J)Lcom/example/wayfold/wayfold/Graph;", sig := { parameters := [.int, .int, (.array .int), (.array .int), (.array .long)], returnType := some (.object "com/example/wayfold/wayfold/Graph") }, accessFlags := 9, code := some k13c1 }
def k13c2 : Code := { maxStack := 2, maxLocals := 2, code := prog_19_method_10_code, exceptionTable := #[], attributes := #[] }
def k13m2 : Method := { name := "firstArc", desc := "(I)I", sig := { parameters := [.int], returnType := some .int }, accessFlags := 0, code := some k13c2 }
/-- com/example/wayfold/wayfold/Graph -/
def k13 : Class := { plain "com/example/wayfold/wayfold/Graph" (some 0) with
  accessFlags := 49
  interfaces := #[]
  cf := some (fileOf pool13 12 #[.nestMembers #[89]] #[{ accessFlags := 2, nameIndex := 9, descriptorIndex := 58, attributes := #[] }, { accessFlags := 9, nameIndex := 80, descriptorIndex := 81, attributes := #[] }, { accessFlags := 0, nameIndex := 19, descriptorIndex := 111, attributes := #[] }] 49 6 #[] #[{ accessFlags := 24, nameIndex := 95, descriptorIndex := 96, attributes := #[] }, { accessFlags := 24, nameIndex := 98, descriptorIndex := 16, attributes := #[] }, { accessFlags := 18, nameIndex := 15, descriptorIndex := 16, attributes := #[] }, { accessFlags := 18, nameIndex := 19, descriptorIndex := 20, attributes := #[] }, { accessFlags := 18, nameIndex := 23, descriptorIndex := 20, attributes := #[] }, { accessFlags := 18, nameIndex := 26, descriptorIndex := 27, attributes := #[] }])
  fields := #[{ name := "WEIGHT_LIMIT", type := (.object "java/lang/String"), accessFlags := 24, slot := 0, constantValue := 0 }, { name := "MAX_NODES", type := .int, accessFlags := 24, slot := 1, constantValue := 0 }, { name := "nodeCount", type := .int, accessFlags := 18, slot := 0, constantValue := 0 }, { name := "firstArc", type := (.array .int), accessFlags := 18, slot := 1, constantValue := 0 }, { name := "arcHead", type := (.array .int), accessFlags := 18, slot := 2, constantValue := 0 }, { name := "arcWeight", type := (.array .long), accessFlags := 18, slot := 3, constantValue := 0 }]
  methods := #[k13m0, k13m1, k13m2]
  instanceTypes := #[.int, (.array .int), (.array .int), (.array .long)]
  staticTypes := #[(.object "java/lang/String"), .int]
  resolved := Array.replicate 141 none
  statics := none }

def pool14 : Array CpInfo := pool [(2, .class_ 4), (1, u "java/lang/Object"), (0, u "<init>"), (0, u "()V"), (1, .class_ 10), (1, u "java/lang/System"), (0, u "allowSecurityManager"), (0, u "I"), (16, u "cons"), (0, u "Ljava/io/Console;"), (77, .class_ 110), (1, u "java/lang/System$CallersHolder"), (43, u "initialErrStream"), (0, u "Ljava/io/PrintStream;"), (19, u "security"), (0, u "Ljava/lang/SecurityManager;"), (31, .class_ 209), (0, u "java/lang/System$1"), (7, u "props"), (0, u "Ljava/util/Properties;"), (2, u "lineSeparator"), (0, u "Ljava/lang/String;"), (96, .class_ 321), (1, u "java/lang/System$LoggerFinder"), (5, .class_ 328), (0, u "java/lang/System$Logger"), (67, u "err"), (2, u "out"), (91, u "notSupportedJnuEncoding"), (15, u "in"), (17, u "initialIn"), (0, u "Ljava/io/InputStream;"), (35, u "bootLayer"), (0, u "Ljava/lang/ModuleLayer;"), (99, .class_ 664), (0, u "java/lang/System$2"), (9, u "NEVER"), (2, u "MAYBE"), (49, u "arraycopy"), (0, u "(Ljava/lang/Object;ILjava/lang/Object;II)V"), (72, .class_ 802), (0, u "java/lang/System$Logger$Level")] 31

def k14m0 : Method := { name := "<init>", desc := "()V", sig := { parameters := [], returnType := none }, accessFlags := 2, code := none }
def k14m1 : Method := { name := "arraycopy", desc := "(Ljava/lang/Object;ILjava/lang/Object;II)V", sig := { parameters := [(.object "java/lang/Object"), .int, (.object "java/lang/Object"), .int, .int], returnType := none }, accessFlags := 265, code := none }
/-- java/lang/System -/
def k14 : Class := { plain "java/lang/System" (some 0) with
  accessFlags := 49
  interfaces := #[]
  cf := some (fileOf pool14 8 #[.nestMembers #[319, 327, 801, 108, 663, 208]] #[{ accessFlags := 2, nameIndex := 5, descriptorIndex := 6, attributes := #[] }, { accessFlags := 265, nameIndex := 727, descriptorIndex := 728, attributes := #[] }] 49 2 #[] #[{ accessFlags := 25, nameIndex := 507, descriptorIndex := 526, attributes := #[] }, { accessFlags := 25, nameIndex := 399, descriptorIndex := 155, attributes := #[] }, { accessFlags := 25, nameIndex := 396, descriptorIndex := 155, attributes := #[] }, { accessFlags := 10, nameIndex := 525, descriptorIndex := 526, attributes := #[] }, { accessFlags := 26, nameIndex := 674, descriptorIndex := 12, attributes := #[] }, { accessFlags := 26, nameIndex := 677, descriptorIndex := 12, attributes := #[] }, { accessFlags := 10, nameIndex := 11, descriptorIndex := 12, attributes := #[] }, { accessFlags := 74, nameIndex := 175, descriptorIndex := 176, attributes := #[] }, { accessFlags := 10, nameIndex := 491, descriptorIndex := 222, attributes := #[] }, { accessFlags := 74, nameIndex := 29, descriptorIndex := 30, attributes := #[] }, { accessFlags := 74, nameIndex := 154, descriptorIndex := 155, attributes := #[] }, { accessFlags := 10, nameIndex := 217, descriptorIndex := 218, attributes := #[] }, { accessFlags := 10, nameIndex := 221, descriptorIndex := 222, attributes := #[] }, { accessFlags := 8, nameIndex := 562, descriptorIndex := 563, attributes := #[] }])
  fields := #[{ name := "in", type := (.object "java/io/InputStream"), accessFlags := 25, slot := 0, constantValue := 0 }, { name := "out", type := (.object "java/io/PrintStream"), accessFlags := 25, slot := 1, constantValue := 0 }, { name := "err", type := (.object "java/io/PrintStream"), accessFlags := 25, slot := 2, constantValue := 0 }, { name := "initialIn", type := (.object "java/io/InputStream"), accessFlags := 10, slot := 3, constantValue := 0 }, { name := "NEVER", type := .int, accessFlags := 26, slot := 4, constantValue := 0 }, { name := "MAYBE", type := .int, accessFlags := 26, slot := 5, constantValue := 0 }, { name := "allowSecurityManager", type := .int, accessFlags := 10, slot := 6, constantValue := 0 }, { name := "security", type := (.object "java/lang/SecurityManager"), accessFlags := 74, slot := 7, constantValue := 0 }, { name := "notSupportedJnuEncoding", type := (.object "java/lang/String"), accessFlags := 10, slot := 8, constantValue := 0 }, { name := "cons", type := (.object "java/io/Console"), accessFlags := 74, slot := 9, constantValue := 0 }, { name := "initialErrStream", type := (.object "java/io/PrintStream"), accessFlags := 74, slot := 10, constantValue := 0 }, { name := "props", type := (.object "java/util/Properties"), accessFlags := 10, slot := 11, constantValue := 0 }, { name := "lineSeparator", type := (.object "java/lang/String"), accessFlags := 10, slot := 12, constantValue := 0 }, { name := "bootLayer", type := (.object "java/lang/ModuleLayer"), accessFlags := 8, slot := 13, constantValue := 0 }]
  methods := #[k14m0, k14m1]
  instanceTypes := #[]
  staticTypes := #[(.object "java/io/InputStream"), (.object "java/io/PrintStream"), (.object "java/io/PrintStream"), (.object "java/io/InputStream"), .int, .int, .int, (.object "java/lang/SecurityManager"), (.object "java/lang/String"), (.object "java/io/Console"), (.object "java/io/PrintStream"), (.object "java/util/Properties"), (.object "java/lang/String"), (.object "java/lang/ModuleLayer")]
  resolved := Array.replicate 834 none
  statics := none }

def pool15 : Array CpInfo := pool [(1, .class_ 2), (0, u "java/lang/Math"), (1, .class_ 6), (1, u "java/lang/Object"), (0, u "<init>"), (0, u "()V"), (89, .class_ 100), (1, u "java/lang/Math$RandomNumberGeneratorHolder"), (71, u "negativeZeroFloatBits"), (0, u "J"), (2, u "negativeZeroDoubleBits"), (21, u "max"), (2, u "min"), (43, u "$assertionsDisabled"), (0, u "Z"), (88, u "(II)I"), (2, u "twoToTheDoubleScaleDown"), (0, u "D"), (4, u "twoToTheDoubleScaleUp"), (9, u "E"), (3, u "PI"), (2, u "TAU"), (2, u "DEGREES_TO_RADIANS"), (0, u "RADIANS_TO_DEGREES")] 94

def k15m0 : Method := { name := "<init>", desc := "()V", sig := { parameters := [], returnType := none }, accessFlags := 2, code := none }
def k15c1 : Code := { maxStack := 2, maxLocals := 2, code := jdk_29_method_65_code, exceptionTable := #[], attributes := #[] }
def k15m1 : Method := { name := "max", desc := "(II)I", sig := { parameters := [.int, .int], returnType := some .int }, accessFlags := 9, code := some k15c1 }
def k15c2 : Code := { maxStack := 2, maxLocals := 2, code := jdk_29_method_69_code, exceptionTable := #[], attributes := #[] }
def k15m2 : Method := { name := "min", desc := "(II)I", sig := { parameters := [.int, .int], returnType := some .int }, accessFlags := 9, code := some k15c2 }
/-- java/lang/Math -/
def k15 : Class := { plain "java/lang/Math" (some 0) with
  accessFlags := 49
  interfaces := #[]
  cf := some (fileOf pool15 1 #[.nestMembers #[98]] #[{ accessFlags := 2, nameIndex := 7, descriptorIndex := 8, attributes := #[] }, { accessFlags := 9, nameIndex := 198, descriptorIndex := 335, attributes := #[] }, { accessFlags := 9, nameIndex := 201, descriptorIndex := 335, attributes := #[] }] 49 4 #[] #[{ accessFlags := 25, nameIndex := 354, descriptorIndex := 339, attributes := #[] }, { accessFlags := 25, nameIndex := 358, descriptorIndex := 339, attributes := #[] }, { accessFlags := 25, nameIndex := 361, descriptorIndex := 339, attributes := #[] }, { accessFlags := 26, nameIndex := 364, descriptorIndex := 339, attributes := #[] }, { accessFlags := 26, nameIndex := 365, descriptorIndex := 339, attributes := #[] }, { accessFlags := 26, nameIndex := 172, descriptorIndex := 173, attributes := #[] }, { accessFlags := 26, nameIndex := 176, descriptorIndex := 173, attributes := #[] }, { accessFlags := 8, nameIndex := 344, descriptorIndex := 339, attributes := #[] }, { accessFlags := 8, nameIndex := 338, descriptorIndex := 339, attributes := #[] }, { accessFlags := 4120, nameIndex := 245, descriptorIndex := 246, attributes := #[] }])
  fields := #[{ name := "E", type := .double, accessFlags := 25, slot := 0, constantValue := 0 }, { name := "PI", type := .double, accessFlags := 25, slot := 1, constantValue := 0 }, { name := "TAU", type := .double, accessFlags := 25, slot := 2, constantValue := 0 }, { name := "DEGREES_TO_RADIANS", type := .double, accessFlags := 26, slot := 3, constantValue := 0 }, { name := "RADIANS_TO_DEGREES", type := .double, accessFlags := 26, slot := 4, constantValue := 0 }, { name := "negativeZeroFloatBits", type := .long, accessFlags := 26, slot := 5, constantValue := 0 }, { name := "negativeZeroDoubleBits", type := .long, accessFlags := 26, slot := 6, constantValue := 0 }, { name := "twoToTheDoubleScaleUp", type := .double, accessFlags := 8, slot := 7, constantValue := 0 }, { name := "twoToTheDoubleScaleDown", type := .double, accessFlags := 8, slot := 8, constantValue := 0 }, { name := "$assertionsDisabled", type := .boolean, accessFlags := 4120, slot := 9, constantValue := 0 }]
  methods := #[k15m0, k15m1, k15m2]
  instanceTypes := #[]
  staticTypes := #[.double, .double, .double, .double, .double, .long, .long, .double, .double, .boolean]
  resolved := Array.replicate 460 none
  statics := none }

/-- the primitive byte -/
def k16 : Class := { plain "byte" none with kind := .primitive 'B', accessFlags := 0x411 }
/-- [B -/
def k17 : Class := { plain "[B" (some 0) with kind := .array 16 .byte, interfaces := #[10, 11], accessFlags := 1041 }

/-- the primitive int -/
def k18 : Class := { plain "int" none with kind := .primitive 'I', accessFlags := 0x411 }
/-- [I -/
def k19 : Class := { plain "[I" (some 0) with kind := .array 18 .int, interfaces := #[10, 11], accessFlags := 1041 }

/-- the primitive long -/
def k20 : Class := { plain "long" none with kind := .primitive 'J', accessFlags := 0x411 }
/-- [J -/
def k21 : Class := { plain "[J" (some 0) with kind := .array 20 .long, interfaces := #[10, 11], accessFlags := 1041 }

/-- [Ljava/lang/Object; -/
def k22 : Class := { plain "[Ljava/lang/Object;" (some 0) with kind := .array 0 (.object "java/lang/Object"), interfaces := #[10, 11], accessFlags := 1041 }

/-- the primitive double -/
def k23 : Class := { plain "double" none with kind := .primitive 'D', accessFlags := 0x411 }
/-- [D -/
def k24 : Class := { plain "[D" (some 0) with kind := .array 23 .double, interfaces := #[10, 11], accessFlags := 1041 }

def heap : Heap := #[{ cls := 12, slots := #[.long 0, .int 0, .ref 1, .ref 2], vm := .statics 12 },
  { cls := 22, slots := #[], vm := .none },
  { cls := 22, slots := #[], vm := .none }]
def classes : Array Class := #[k0, k1, k2, k3, k4, k5, k6, k7, k8, k9, k10, k11, k12, k13, k14, k15, k16, k17, k18, k19, k20, k21, k22, k23, k24]
def interned : List (Array UInt16 × Addr) := []
def slotsUsed : Nat := 4
def theMethod : MethodId := ⟨1, 1⟩
def args0 : Array Value := #[.int 3, .int 1, .int 2, .int 1, .int 1, .int 0]
def aboutOver (below : List Frame) : State where
  vm := { classes := classes, interned := interned.toArray }
  heap := heap
  slotsUsed := slotsUsed
  threads := #[{ frames := .invoking theMethod args0 :: below }]
def below0 : List Frame := [.native { method := ⟨0, 0⟩, args := #[] }]
def about1 : State := aboutOver below0
def p0 : Program := .bare "" "" ""
def e0 : Env := launch0.env 0 0 0
theorem w_frames : about1.frames = Frame.invoking theMethod args0 :: below0 := rfl
set_option maxRecDepth 65536 in
theorem w_args : argsFit about1.vm theMethod args0 = true := by decide +kernel
set_option maxRecDepth 65536 in
theorem w_heap : heapFits about1 = true := by decide +kernel
set_option maxRecDepth 65536 in
theorem w_runnable : about1.curStatus? = some .runnable := by decide +kernel
set_option maxRecDepth 65536 in
theorem w_alone : about1.alone = true := by decide +kernel
set_option maxRecDepth 65536 in
theorem w_named : about1.methodNamed? x = some theMethod := by decide +kernel
set_option maxRecDepth 65536 in
theorem w_hears : about1.hears theMethod below0 = true := by decide +kernel
set_option maxRecDepth 65536 in
theorem w_ripe : about1.ripe theMethod args0 below0 = true := by decide +kernel
theorem w_running : about1.status = .running := rfl
set_option maxRecDepth 65536 in
theorem w_room : about1.hasRoom e0.platform room_1 = true :=
  launch0.hasRoom_least _ room_1 (by decide +kernel) (by decide +kernel) (by decide +kernel) (by decide +kernel) (by decide +kernel) (by decide +kernel)
theorem allAtoms_all (ts : List Jvm.Cond) (a : Array Jvm.Value) (st : Jvm.State) : (allAtoms ts).before a st = ts.all (fun c => c.before a st) := by
  induction ts with
  | nil => rfl
  | cons c t ih =>
    show (Jvm.Cond.and c (allAtoms t)).before a st = _
    rw [Jvm.Cond.before_and, ih, List.all_cons]
def words1 : List Jvm.Cond := Jvm.Cond.code x code maxLocals ret :: tables_1
/-- a 'code' word, met by the world's own term for the bytes: nothing is compared byte by byte -/
theorem code_word {y : MethodName} {bytes : ByteArray} {mx : Nat} {rt : Option FieldType} {a : Array Value} {s : State} {m : MethodId} {meth : Method} {c : Code} (h1 : s.methodNamed? y = some m) (h2 : s.vm.method? m = some meth) (h3 : meth.code = some c) (h4 : c.code = bytes)
    (h5 : (c.maxLocals == mx && c.exceptionTable.isEmpty && decide (c.maxStack ≤ mostOperands) && decide (meth.sig.returnType = rt) && !meth.locks && decide (parseMethodDescriptor y.desc = some meth.sig)) = true) : (Jvm.Cond.code y bytes mx rt).before a s = true := by
  simp only [Bool.and_eq_true, beq_iff_eq, Bool.not_eq_true', decide_eq_true_eq] at h5
  obtain ⟨⟨⟨⟨⟨g1, g2⟩, g3⟩, g4⟩, g5⟩, g6⟩ := h5
  simp [Cond.before, Cond.holds, Cond.value, h1, h2, h3, h4, g1, g2, g3, g4, g5, g6]
def isCode : Jvm.Cond → Bool
  | .code _ _ _ _ => true
  | _ => false
theorem all_split {L : List Jvm.Cond} {P : Jvm.Cond → Bool} (h1 : L.all (fun c => isCode c || P c) = true) (h2 : ∀ c ∈ L.filter isCode, P c = true) : L.all P = true := by
  refine List.all_eq_true.mpr fun c hc => ?_
  have h := List.all_eq_true.mp h1 c hc
  rcases Bool.eq_false_or_eq_true (isCode c) with hi | hi
  · exact h2 c (List.mem_filter.mpr ⟨hc, hi⟩)
  · simpa [hi] using h
set_option maxRecDepth 65536 in
theorem w_c0 : (Jvm.Cond.code x code maxLocals ret).before args0 about1 = true := code_word (m := ⟨1, 1⟩) (meth := k1m1) (c := k1c1) (by decide +kernel) rfl rfl rfl (by decide +kernel)
set_option maxRecDepth 65536 in
theorem w_c1 : (Jvm.Cond.code ({ cls := "java/util/ArrayList", name := "<init>", desc := "()V" } : Jvm.MethodName) jdk_38_method_2_code (1 : Nat) (Option.none : Option Jvm.ClassFile.FieldType)).before args0 about1 = true := code_word (m := ⟨12, 0⟩) (meth := k12m0) (c := k12c0) (by decide +kernel) rfl rfl rfl (by decide +kernel)
set_option maxRecDepth 65536 in
theorem w_c2 : (Jvm.Cond.code ({ cls := "java/util/AbstractList", name := "<init>", desc := "()V" } : Jvm.MethodName) jdk_39_method_1_code (1 : Nat) (Option.none : Option Jvm.ClassFile.FieldType)).before args0 about1 = true := code_word (m := ⟨8, 0⟩) (meth := k8m0) (c := k8c0) (by decide +kernel) rfl rfl rfl (by decide +kernel)
set_option maxRecDepth 65536 in
theorem w_c3 : (Jvm.Cond.code ({ cls := "java/util/AbstractCollection", name := "<init>", desc := "()V" } : Jvm.MethodName) jdk_22_method_1_code (1 : Nat) (Option.none : Option Jvm.ClassFile.FieldType)).before args0 about1 = true := code_word (m := ⟨5, 0⟩) (meth := k5m0) (c := k5c0) (by decide +kernel) rfl rfl rfl (by decide +kernel)
set_option maxRecDepth 65536 in
theorem w_c4 : (Jvm.Cond.code ({ cls := "java/lang/Object", name := "<init>", desc := "()V" } : Jvm.MethodName) object_method_1_code (1 : Nat) (Option.none : Option Jvm.ClassFile.FieldType)).before args0 about1 = true := code_word (m := ⟨0, 0⟩) (meth := k0m0) (c := k0c0) (by decide +kernel) rfl rfl rfl (by decide +kernel)
set_option maxRecDepth 65536 in
theorem w_c5 : (Jvm.Cond.code ({ cls := "com/example/wayfold/wayfold/TrafficNetwork", name := "<init>", desc := "(IIILjava/util/List;)V" } : Jvm.MethodName) prog_57_method_1_code (12 : Nat) (Option.none : Option Jvm.ClassFile.FieldType)).before args0 about1 = true := code_word (m := ⟨2, 0⟩) (meth := k2m0) (c := k2c0) (by decide +kernel) rfl rfl rfl (by decide +kernel)
set_option maxRecDepth 65536 in
theorem w_c6 : (Jvm.Cond.code ({ cls := "java/util/ArrayList", name := "size", desc := "()I" } : Jvm.MethodName) jdk_38_method_8_code (1 : Nat) (Option.some Jvm.ClassFile.FieldType.int)).before args0 about1 = true := code_word (m := ⟨12, 1⟩) (meth := k12m1) (c := k12c1) (by decide +kernel) rfl rfl rfl (by decide +kernel)
set_option maxRecDepth 65536 in
theorem w_c7 : (Jvm.Cond.code ({ cls := "com/example/wayfold/wayfold/Graph", name := "of", desc := "(II[I[I[J)Lcom/example/wayfold/wayfold/Graph;" } : Jvm.MethodName) prog_19_method_2_code (13 : Nat) (Option.some (Jvm.ClassFile.FieldType.object "com/example/wayfold/wayfold/Graph"))).before args0 about1 = true := code_word (m := ⟨13, 1⟩) (meth := k13m1) (c := k13c1) (by decide +kernel) rfl rfl rfl (by decide +kernel)
set_option maxRecDepth 65536 in
theorem w_c8 : (Jvm.Cond.code ({ cls := "com/example/wayfold/wayfold/Graph", name := "<init>", desc := "(I[I[I[J)V" } : Jvm.MethodName) prog_19_method_1_code (5 : Nat) (Option.none : Option Jvm.ClassFile.FieldType)).before args0 about1 = true := code_word (m := ⟨13, 0⟩) (meth := k13m0) (c := k13c0) (by decide +kernel) rfl rfl rfl (by decide +kernel)
set_option maxRecDepth 65536 in
theorem w_c9 : (Jvm.Cond.code ({ cls := "com/example/wayfold/wayfold/Graph", name := "firstArc", desc := "(I)I" } : Jvm.MethodName) prog_19_method_10_code (2 : Nat) (Option.some Jvm.ClassFile.FieldType.int)).before args0 about1 = true := code_word (m := ⟨13, 2⟩) (meth := k13m2) (c := k13c2) (by decide +kernel) rfl rfl rfl (by decide +kernel)
set_option maxRecDepth 65536 in
theorem w_c10 : (Jvm.Cond.code ({ cls := "java/lang/Math", name := "min", desc := "(II)I" } : Jvm.MethodName) jdk_29_method_69_code (2 : Nat) (Option.some Jvm.ClassFile.FieldType.int)).before args0 about1 = true := code_word (m := ⟨15, 2⟩) (meth := k15m2) (c := k15c2) (by decide +kernel) rfl rfl rfl (by decide +kernel)
set_option maxRecDepth 65536 in
theorem w_c11 : (Jvm.Cond.code ({ cls := "java/lang/Math", name := "max", desc := "(II)I" } : Jvm.MethodName) jdk_29_method_65_code (2 : Nat) (Option.some Jvm.ClassFile.FieldType.int)).before args0 about1 = true := code_word (m := ⟨15, 1⟩) (meth := k15m1) (c := k15c1) (by decide +kernel) rfl rfl rfl (by decide +kernel)
set_option maxRecDepth 65536 in
theorem w_c12 : (Jvm.Cond.code ({ cls := "com/example/wayfold/wayfold/TrafficNetwork", name := "thru", desc := "(I)Z" } : Jvm.MethodName) prog_57_method_4_code (2 : Nat) (Option.some Jvm.ClassFile.FieldType.boolean)).before args0 about1 = true := code_word (m := ⟨2, 1⟩) (meth := k2m1) (c := k2c1) (by decide +kernel) rfl rfl rfl (by decide +kernel)
def codes1 : List Jvm.Cond := [Jvm.Cond.code x code maxLocals ret, Jvm.Cond.code ({ cls := "java/util/ArrayList", name := "<init>", desc := "()V" } : Jvm.MethodName) jdk_38_method_2_code (1 : Nat) (Option.none : Option Jvm.ClassFile.FieldType), Jvm.Cond.code ({ cls := "java/util/AbstractList", name := "<init>", desc := "()V" } : Jvm.MethodName) jdk_39_method_1_code (1 : Nat) (Option.none : Option Jvm.ClassFile.FieldType), Jvm.Cond.code ({ cls := "java/util/AbstractCollection", name := "<init>", desc := "()V" } : Jvm.MethodName) jdk_22_method_1_code (1 : Nat) (Option.none : Option Jvm.ClassFile.FieldType), Jvm.Cond.code ({ cls := "java/lang/Object", name := "<init>", desc := "()V" } : Jvm.MethodName) object_method_1_code (1 : Nat) (Option.none : Option Jvm.ClassFile.FieldType), Jvm.Cond.code ({ cls := "com/example/wayfold/wayfold/TrafficNetwork", name := "<init>", desc := "(IIILjava/util/List;)V" } : Jvm.MethodName) prog_57_method_1_code (12 : Nat) (Option.none : Option Jvm.ClassFile.FieldType), Jvm.Cond.code ({ cls := "java/util/ArrayList", name := "size", desc := "()I" } : Jvm.MethodName) jdk_38_method_8_code (1 : Nat) (Option.some Jvm.ClassFile.FieldType.int), Jvm.Cond.code ({ cls := "com/example/wayfold/wayfold/Graph", name := "of", desc := "(II[I[I[J)Lcom/example/wayfold/wayfold/Graph;" } : Jvm.MethodName) prog_19_method_2_code (13 : Nat) (Option.some (Jvm.ClassFile.FieldType.object "com/example/wayfold/wayfold/Graph")), Jvm.Cond.code ({ cls := "com/example/wayfold/wayfold/Graph", name := "<init>", desc := "(I[I[I[J)V" } : Jvm.MethodName) prog_19_method_1_code (5 : Nat) (Option.none : Option Jvm.ClassFile.FieldType), Jvm.Cond.code ({ cls := "com/example/wayfold/wayfold/Graph", name := "firstArc", desc := "(I)I" } : Jvm.MethodName) prog_19_method_10_code (2 : Nat) (Option.some Jvm.ClassFile.FieldType.int), Jvm.Cond.code ({ cls := "java/lang/Math", name := "min", desc := "(II)I" } : Jvm.MethodName) jdk_29_method_69_code (2 : Nat) (Option.some Jvm.ClassFile.FieldType.int), Jvm.Cond.code ({ cls := "java/lang/Math", name := "max", desc := "(II)I" } : Jvm.MethodName) jdk_29_method_65_code (2 : Nat) (Option.some Jvm.ClassFile.FieldType.int), Jvm.Cond.code ({ cls := "com/example/wayfold/wayfold/TrafficNetwork", name := "thru", desc := "(I)Z" } : Jvm.MethodName) prog_57_method_4_code (2 : Nat) (Option.some Jvm.ClassFile.FieldType.boolean)]
set_option maxRecDepth 65536 in
theorem codes_eq : words1.filter isCode = codes1 := rfl
theorem w_codes : ∀ c ∈ words1.filter isCode, c.before args0 about1 = true := by
  rw [codes_eq]
  intro c hc
  simp only [codes1, List.mem_cons, List.not_mem_nil, or_false] at hc
  rcases hc with rfl | rfl | rfl | rfl | rfl | rfl | rfl | rfl | rfl | rfl | rfl | rfl | rfl
  · exact w_c0
  · exact w_c1
  · exact w_c2
  · exact w_c3
  · exact w_c4
  · exact w_c5
  · exact w_c6
  · exact w_c7
  · exact w_c8
  · exact w_c9
  · exact w_c10
  · exact w_c11
  · exact w_c12
set_option maxRecDepth 65536 in
theorem w_t1 : (words1.take 24).all (fun c => isCode c || c.before args0 about1) = true := by decide +kernel
set_option maxRecDepth 65536 in
theorem w_t2 : ((words1.drop 24).take 24).all (fun c => isCode c || c.before args0 about1) = true := by decide +kernel
set_option maxRecDepth 65536 in
theorem w_t3 : (((words1.drop 24).drop 24).take 24).all (fun c => isCode c || c.before args0 about1) = true := by decide +kernel
set_option maxRecDepth 65536 in
theorem w_t4 : ((((words1.drop 24).drop 24).drop 24).take 24).all (fun c => isCode c || c.before args0 about1) = true := by decide +kernel
set_option maxRecDepth 65536 in
theorem w_t5 : ((((words1.drop 24).drop 24).drop 24).drop 24).all (fun c => isCode c || c.before args0 about1) = true := by decide +kernel
theorem w_tables : (allAtoms (Jvm.Cond.code x code maxLocals ret :: tables_1)).before args0 about1 = true := by
  rw [allAtoms_all]
  show words1.all (fun c => c.before args0 about1) = true
  refine all_split ?_ w_codes
  rw [← List.take_append_drop 24 words1, List.all_append, w_t1, ← List.take_append_drop 24 (words1.drop 24), List.all_append, w_t2, ← List.take_append_drop 24 ((words1.drop 24).drop 24), List.all_append, w_t3, ← List.take_append_drop 24 (((words1.drop 24).drop 24).drop 24), List.all_append, w_t4, w_t5]
  rfl
set_option maxRecDepth 65536 in
theorem w_rest : rest_1_c.before args0 about1 = true := by decide +kernel
set_option maxRecDepth 65536 in
theorem w_case : (Jvm.Cond.and given_1 narrow_1).before args0 about1 = true := by decide +kernel
theorem w_applies : (headSpec (Jvm.Cond.code x code maxLocals ret :: tables_1) room_1).applies x e0.platform about1 = true :=
  (Spec.applies_iff w_frames).mpr ⟨w_running, w_runnable, w_alone, w_named, w_hears, w_ripe, w_room, w_tables⟩
theorem atStart : AtStart classFile x code maxLocals ret World_1 tables_1 room_1 Calls_1 rest_1 Pre_1 launch0 p0 e0 about1 theMethod args0 below0 :=
  ⟨lists_1, trivial, launch0.admits_env _ _ _, launch0.least_env, fairChoices_fair.cas, fairChoices_fair.clock, w_frames, w_args, w_heap, w_applies, trivial, w_rest, w_case⟩
end start1
theorem witness_1 : WitnessClaimed_1 := ⟨start1.p0, start1.e0, start1.about1, start1.theMethod, start1.args0, start1.below0, start1.atStart⟩
end Jvm.Pilot.@@N@@
