import JvmDerived
import JvmDerived.Pilot.@@N@@Statement
import JvmDerived.Pilot.@@N@@Code
set_option linter.unusedVariables false
set_option linter.unusedSimpArgs false
namespace Jvm.Pilot.@@N@@
open Jvm Jvm.ClassFile Sem Op Lib Jvm.Free Jvm.Stand Jvm.LawKit Jvm.RoadKit Bundle Jvm.Pilot.@@N@@.Jvm.D
section OwnKit
variable {p : Program} {l : Launch} {e : Env} {R : Room} {s : State} {m : MethodId} {args : Array Value} {below : List Frame} {meth : Method} {c : Code} {T : State} {locs : List Loc} {cells slots : Nat} {bytes : ByteArray} {Φ : State → Prop} {pc pc' : Nat} {Ls Ls' : Array Slot} {rest : List Value} {Z : State} {a0 : Array Value} {h : Heap}
/-- the run from A ends in a state with the property Φ -/
def GoP (p : Program) (e : Env) (below : List Frame) (Φ : State → Prop) (A : State) : Prop := ∃ t, Steps p.tables e below A t ∧ Φ t
theorem own_step {A B : State} (h : ∀ t, Steps p.tables e below B t → Steps p.tables e below A t) (g : GoP p e below Φ B) : GoP p e below Φ A := by
  obtain ⟨t, h1, h2⟩ := g; exact ⟨t, h t h1, h2⟩
theorem own_trans {A B : State} (h : Steps p.tables e below A B) (g : GoP p e below Φ B) : GoP p e below Φ A := by
  obtain ⟨t, h1, h2⟩ := g; exact ⟨t, h.trans h1, h2⟩
theorem own_w {L : List Jvm.Cond} (hw : ∀ d ∈ L, d.before a0 Z = true) (i : Nat) {d : Jvm.Cond} (q : L[i]? = some d) : d.before a0 Z = true := hw d (List.mem_of_getElem? q)

theorem own_iload (X : Stand p l e R s m args below meth c T locs cells slots) (hx : p.tables.exec = Jvm.exec) (hby : c.code = bytes) {k : Nat} {x : Int32} (hd : decode bytes pc = .ok (.iload k, 2)) (hl : Ls[k]? = some (.val (.int x))) (hp : pc + 2 = pc') (k : GoP p e below Φ (T.setTop (mkF m pc' Ls (.int x :: rest)))) : GoP p e below Φ (T.setTop (mkF m pc Ls (rest))) := by
  subst hp
  exact own_step (fun t q => XS.iload X.here hx rfl (hb hby hd) hl q) k
theorem own_iloadN (X : Stand p l e R s m args below meth c T locs cells slots) (hx : p.tables.exec = Jvm.exec) (hby : c.code = bytes) {k : Fin 4} {x : Int32} (hd : decode bytes pc = .ok (.iload_n k, 1)) (hl : Ls[k.val]? = some (.val (.int x))) (hp : pc + 1 = pc') (k : GoP p e below Φ (T.setTop (mkF m pc' Ls (.int x :: rest)))) : GoP p e below Φ (T.setTop (mkF m pc Ls (rest))) := by
  subst hp
  exact own_step (fun t q => XS.iloadN X.here hx rfl (hb hby hd) hl q) k
theorem own_istore (X : Stand p l e R s m args below meth c T locs cells slots) (hx : p.tables.exec = Jvm.exec) (hby : c.code = bytes) {k : Nat} {x : Int32} (hd : decode bytes pc = .ok (.istore k, 2)) (hl : storeLocals Ls k (.int x) = some Ls') (hp : pc + 2 = pc') (k : GoP p e below Φ (T.setTop (mkF m pc' Ls' (rest)))) : GoP p e below Φ (T.setTop (mkF m pc Ls (.int x :: rest))) := by
  subst hp
  exact own_step (fun t q => XS.istore X.here hx rfl (hb hby hd) rfl hl q) k
theorem own_istoreN (X : Stand p l e R s m args below meth c T locs cells slots) (hx : p.tables.exec = Jvm.exec) (hby : c.code = bytes) {k : Fin 4} {x : Int32} (hd : decode bytes pc = .ok (.istore_n k, 1)) (hl : storeLocals Ls k.val (.int x) = some Ls') (hp : pc + 1 = pc') (k : GoP p e below Φ (T.setTop (mkF m pc' Ls' (rest)))) : GoP p e below Φ (T.setTop (mkF m pc Ls (.int x :: rest))) := by
  subst hp
  exact own_step (fun t q => XS.istoreN X.here hx rfl (hb hby hd) rfl hl q) k
theorem own_lload (X : Stand p l e R s m args below meth c T locs cells slots) (hx : p.tables.exec = Jvm.exec) (hby : c.code = bytes) {k : Nat} {x : Int64} (hd : decode bytes pc = .ok (.lload k, 2)) (hl : Ls[k]? = some (.val (.long x))) (hp : pc + 2 = pc') (k : GoP p e below Φ (T.setTop (mkF m pc' Ls (.long x :: rest)))) : GoP p e below Φ (T.setTop (mkF m pc Ls (rest))) := by
  subst hp
  exact own_step (fun t q => XS.lload X.here hx rfl (hb hby hd) hl q) k
theorem own_lloadN (X : Stand p l e R s m args below meth c T locs cells slots) (hx : p.tables.exec = Jvm.exec) (hby : c.code = bytes) {k : Fin 4} {x : Int64} (hd : decode bytes pc = .ok (.lload_n k, 1)) (hl : Ls[k.val]? = some (.val (.long x))) (hp : pc + 1 = pc') (k : GoP p e below Φ (T.setTop (mkF m pc' Ls (.long x :: rest)))) : GoP p e below Φ (T.setTop (mkF m pc Ls (rest))) := by
  subst hp
  exact own_step (fun t q => XS.lloadN X.here hx rfl (hb hby hd) hl q) k
theorem own_lstore (X : Stand p l e R s m args below meth c T locs cells slots) (hx : p.tables.exec = Jvm.exec) (hby : c.code = bytes) {k : Nat} {x : Int64} (hd : decode bytes pc = .ok (.lstore k, 2)) (hl : storeLocals Ls k (.long x) = some Ls') (hp : pc + 2 = pc') (k : GoP p e below Φ (T.setTop (mkF m pc' Ls' (rest)))) : GoP p e below Φ (T.setTop (mkF m pc Ls (.long x :: rest))) := by
  subst hp
  exact own_step (fun t q => XS.lstore X.here hx rfl (hb hby hd) rfl hl q) k
theorem own_lstoreN (X : Stand p l e R s m args below meth c T locs cells slots) (hx : p.tables.exec = Jvm.exec) (hby : c.code = bytes) {k : Fin 4} {x : Int64} (hd : decode bytes pc = .ok (.lstore_n k, 1)) (hl : storeLocals Ls k.val (.long x) = some Ls') (hp : pc + 1 = pc') (k : GoP p e below Φ (T.setTop (mkF m pc' Ls' (rest)))) : GoP p e below Φ (T.setTop (mkF m pc Ls (.long x :: rest))) := by
  subst hp
  exact own_step (fun t q => XS.lstoreN X.here hx rfl (hb hby hd) rfl hl q) k
theorem own_aload (X : Stand p l e R s m args below meth c T locs cells slots) (hx : p.tables.exec = Jvm.exec) (hby : c.code = bytes) {k : Nat} {x : Value} (hd : decode bytes pc = .ok (.aload k, 2)) (hl : Ls[k]? = some (.val x)) (hr : x.isRef = true) (hp : pc + 2 = pc') (k : GoP p e below Φ (T.setTop (mkF m pc' Ls (x :: rest)))) : GoP p e below Φ (T.setTop (mkF m pc Ls (rest))) := by
  subst hp
  exact own_step (fun t q => XS.aload X.here hx rfl (hb hby hd) hl hr q) k
theorem own_aloadN (X : Stand p l e R s m args below meth c T locs cells slots) (hx : p.tables.exec = Jvm.exec) (hby : c.code = bytes) {k : Fin 4} {x : Value} (hd : decode bytes pc = .ok (.aload_n k, 1)) (hl : Ls[k.val]? = some (.val x)) (hr : x.isRef = true) (hp : pc + 1 = pc') (k : GoP p e below Φ (T.setTop (mkF m pc' Ls (x :: rest)))) : GoP p e below Φ (T.setTop (mkF m pc Ls (rest))) := by
  subst hp
  exact own_step (fun t q => XS.aloadN X.here hx rfl (hb hby hd) hl hr q) k
theorem own_astore (X : Stand p l e R s m args below meth c T locs cells slots) (hx : p.tables.exec = Jvm.exec) (hby : c.code = bytes) {k : Nat} {x : Value} (hd : decode bytes pc = .ok (.astore k, 2)) (hr : x.isRef = true) (hl : storeLocals Ls k x = some Ls') (hp : pc + 2 = pc') (k : GoP p e below Φ (T.setTop (mkF m pc' Ls' (rest)))) : GoP p e below Φ (T.setTop (mkF m pc Ls (x :: rest))) := by
  subst hp
  exact own_step (fun t q => XS.astore X.here hx rfl (hb hby hd) rfl hr hl q) k
theorem own_astoreN (X : Stand p l e R s m args below meth c T locs cells slots) (hx : p.tables.exec = Jvm.exec) (hby : c.code = bytes) {k : Fin 4} {x : Value} (hd : decode bytes pc = .ok (.astore_n k, 1)) (hr : x.isRef = true) (hl : storeLocals Ls k.val x = some Ls') (hp : pc + 1 = pc') (k : GoP p e below Φ (T.setTop (mkF m pc' Ls' (rest)))) : GoP p e below Φ (T.setTop (mkF m pc Ls (x :: rest))) := by
  subst hp
  exact own_step (fun t q => XS.astoreN X.here hx rfl (hb hby hd) rfl hr hl q) k
theorem own_iadd (X : Stand p l e R s m args below meth c T locs cells slots) (hx : p.tables.exec = Jvm.exec) (hby : c.code = bytes) {x y : Int32} (hd : decode bytes pc = .ok (.iadd, 1)) (hp : pc + 1 = pc') (k : GoP p e below Φ (T.setTop (mkF m pc' Ls (.int (x + y) :: rest)))) : GoP p e below Φ (T.setTop (mkF m pc Ls (.int y :: .int x :: rest))) := by
  subst hp
  exact own_step (fun t q => XS.iadd X.here hx rfl (hb hby hd) rfl q) k
theorem own_ladd (X : Stand p l e R s m args below meth c T locs cells slots) (hx : p.tables.exec = Jvm.exec) (hby : c.code = bytes) {x y : Int64} (hd : decode bytes pc = .ok (.ladd, 1)) (hp : pc + 1 = pc') (k : GoP p e below Φ (T.setTop (mkF m pc' Ls (.long (x + y) :: rest)))) : GoP p e below Φ (T.setTop (mkF m pc Ls (.long y :: .long x :: rest))) := by
  subst hp
  exact own_step (fun t q => XS.ladd X.here hx rfl (hb hby hd) rfl q) k
theorem own_isub (X : Stand p l e R s m args below meth c T locs cells slots) (hx : p.tables.exec = Jvm.exec) (hby : c.code = bytes) {x y : Int32} (hd : decode bytes pc = .ok (.isub, 1)) (hp : pc + 1 = pc') (k : GoP p e below Φ (T.setTop (mkF m pc' Ls (.int (x - y) :: rest)))) : GoP p e below Φ (T.setTop (mkF m pc Ls (.int y :: .int x :: rest))) := by
  subst hp
  exact own_step (fun t q => XS.isub X.here hx rfl (hb hby hd) rfl q) k
theorem own_lsub (X : Stand p l e R s m args below meth c T locs cells slots) (hx : p.tables.exec = Jvm.exec) (hby : c.code = bytes) {x y : Int64} (hd : decode bytes pc = .ok (.lsub, 1)) (hp : pc + 1 = pc') (k : GoP p e below Φ (T.setTop (mkF m pc' Ls (.long (x - y) :: rest)))) : GoP p e below Φ (T.setTop (mkF m pc Ls (.long y :: .long x :: rest))) := by
  subst hp
  exact own_step (fun t q => XS.lsub X.here hx rfl (hb hby hd) rfl q) k
theorem own_imul (X : Stand p l e R s m args below meth c T locs cells slots) (hx : p.tables.exec = Jvm.exec) (hby : c.code = bytes) {x y : Int32} (hd : decode bytes pc = .ok (.imul, 1)) (hp : pc + 1 = pc') (k : GoP p e below Φ (T.setTop (mkF m pc' Ls (.int (x * y) :: rest)))) : GoP p e below Φ (T.setTop (mkF m pc Ls (.int y :: .int x :: rest))) := by
  subst hp
  exact own_step (fun t q => XS.imul X.here hx rfl (hb hby hd) rfl q) k
theorem own_lmul (X : Stand p l e R s m args below meth c T locs cells slots) (hx : p.tables.exec = Jvm.exec) (hby : c.code = bytes) {x y : Int64} (hd : decode bytes pc = .ok (.lmul, 1)) (hp : pc + 1 = pc') (k : GoP p e below Φ (T.setTop (mkF m pc' Ls (.long (x * y) :: rest)))) : GoP p e below Φ (T.setTop (mkF m pc Ls (.long y :: .long x :: rest))) := by
  subst hp
  exact own_step (fun t q => XS.lmul X.here hx rfl (hb hby hd) rfl q) k
theorem own_iand (X : Stand p l e R s m args below meth c T locs cells slots) (hx : p.tables.exec = Jvm.exec) (hby : c.code = bytes) {x y : Int32} (hd : decode bytes pc = .ok (.iand, 1)) (hp : pc + 1 = pc') (k : GoP p e below Φ (T.setTop (mkF m pc' Ls (.int (x &&& y) :: rest)))) : GoP p e below Φ (T.setTop (mkF m pc Ls (.int y :: .int x :: rest))) := by
  subst hp
  exact own_step (fun t q => XS.iand X.here hx rfl (hb hby hd) rfl q) k
theorem own_land (X : Stand p l e R s m args below meth c T locs cells slots) (hx : p.tables.exec = Jvm.exec) (hby : c.code = bytes) {x y : Int64} (hd : decode bytes pc = .ok (.land, 1)) (hp : pc + 1 = pc') (k : GoP p e below Φ (T.setTop (mkF m pc' Ls (.long (x &&& y) :: rest)))) : GoP p e below Φ (T.setTop (mkF m pc Ls (.long y :: .long x :: rest))) := by
  subst hp
  exact own_step (fun t q => XS.land X.here hx rfl (hb hby hd) rfl q) k
theorem own_ior (X : Stand p l e R s m args below meth c T locs cells slots) (hx : p.tables.exec = Jvm.exec) (hby : c.code = bytes) {x y : Int32} (hd : decode bytes pc = .ok (.ior, 1)) (hp : pc + 1 = pc') (k : GoP p e below Φ (T.setTop (mkF m pc' Ls (.int (x ||| y) :: rest)))) : GoP p e below Φ (T.setTop (mkF m pc Ls (.int y :: .int x :: rest))) := by
  subst hp
  exact own_step (fun t q => XS.ior X.here hx rfl (hb hby hd) rfl q) k
theorem own_lor (X : Stand p l e R s m args below meth c T locs cells slots) (hx : p.tables.exec = Jvm.exec) (hby : c.code = bytes) {x y : Int64} (hd : decode bytes pc = .ok (.lor, 1)) (hp : pc + 1 = pc') (k : GoP p e below Φ (T.setTop (mkF m pc' Ls (.long (x ||| y) :: rest)))) : GoP p e below Φ (T.setTop (mkF m pc Ls (.long y :: .long x :: rest))) := by
  subst hp
  exact own_step (fun t q => XS.lor X.here hx rfl (hb hby hd) rfl q) k
theorem own_ixor (X : Stand p l e R s m args below meth c T locs cells slots) (hx : p.tables.exec = Jvm.exec) (hby : c.code = bytes) {x y : Int32} (hd : decode bytes pc = .ok (.ixor, 1)) (hp : pc + 1 = pc') (k : GoP p e below Φ (T.setTop (mkF m pc' Ls (.int (x ^^^ y) :: rest)))) : GoP p e below Φ (T.setTop (mkF m pc Ls (.int y :: .int x :: rest))) := by
  subst hp
  exact own_step (fun t q => XS.ixor X.here hx rfl (hb hby hd) rfl q) k
theorem own_lxor (X : Stand p l e R s m args below meth c T locs cells slots) (hx : p.tables.exec = Jvm.exec) (hby : c.code = bytes) {x y : Int64} (hd : decode bytes pc = .ok (.lxor, 1)) (hp : pc + 1 = pc') (k : GoP p e below Φ (T.setTop (mkF m pc' Ls (.long (x ^^^ y) :: rest)))) : GoP p e below Φ (T.setTop (mkF m pc Ls (.long y :: .long x :: rest))) := by
  subst hp
  exact own_step (fun t q => XS.lxor X.here hx rfl (hb hby hd) rfl q) k
theorem own_ishl (X : Stand p l e R s m args below meth c T locs cells slots) (hx : p.tables.exec = Jvm.exec) (hby : c.code = bytes) {x : Int32} {y : Int32} (hd : decode bytes pc = .ok (.ishl, 1)) (hp : pc + 1 = pc') (k : GoP p e below Φ (T.setTop (mkF m pc' Ls (.int (x <<< (y &&& 31)) :: rest)))) : GoP p e below Φ (T.setTop (mkF m pc Ls (.int y :: .int x :: rest))) := by
  subst hp
  exact own_step (fun t q => XS.ishl X.here hx rfl (hb hby hd) rfl q) k
theorem own_ishr (X : Stand p l e R s m args below meth c T locs cells slots) (hx : p.tables.exec = Jvm.exec) (hby : c.code = bytes) {x : Int32} {y : Int32} (hd : decode bytes pc = .ok (.ishr, 1)) (hp : pc + 1 = pc') (k : GoP p e below Φ (T.setTop (mkF m pc' Ls (.int (x >>> (y &&& 31)) :: rest)))) : GoP p e below Φ (T.setTop (mkF m pc Ls (.int y :: .int x :: rest))) := by
  subst hp
  exact own_step (fun t q => XS.ishr X.here hx rfl (hb hby hd) rfl q) k
theorem own_iushr (X : Stand p l e R s m args below meth c T locs cells slots) (hx : p.tables.exec = Jvm.exec) (hby : c.code = bytes) {x : Int32} {y : Int32} (hd : decode bytes pc = .ok (.iushr, 1)) (hp : pc + 1 = pc') (k : GoP p e below Φ (T.setTop (mkF m pc' Ls (.int ((x.toUInt32 >>> (y &&& 31).toUInt32).toInt32) :: rest)))) : GoP p e below Φ (T.setTop (mkF m pc Ls (.int y :: .int x :: rest))) := by
  subst hp
  exact own_step (fun t q => XS.iushr X.here hx rfl (hb hby hd) rfl q) k
theorem own_lshl (X : Stand p l e R s m args below meth c T locs cells slots) (hx : p.tables.exec = Jvm.exec) (hby : c.code = bytes) {x : Int64} {y : Int32} (hd : decode bytes pc = .ok (.lshl, 1)) (hp : pc + 1 = pc') (k : GoP p e below Φ (T.setTop (mkF m pc' Ls (.long (x <<< (y &&& 0x3f).toInt64) :: rest)))) : GoP p e below Φ (T.setTop (mkF m pc Ls (.int y :: .long x :: rest))) := by
  subst hp
  exact own_step (fun t q => XS.lshl X.here hx rfl (hb hby hd) rfl q) k
theorem own_lshr (X : Stand p l e R s m args below meth c T locs cells slots) (hx : p.tables.exec = Jvm.exec) (hby : c.code = bytes) {x : Int64} {y : Int32} (hd : decode bytes pc = .ok (.lshr, 1)) (hp : pc + 1 = pc') (k : GoP p e below Φ (T.setTop (mkF m pc' Ls (.long (x >>> (y &&& 0x3f).toInt64) :: rest)))) : GoP p e below Φ (T.setTop (mkF m pc Ls (.int y :: .long x :: rest))) := by
  subst hp
  exact own_step (fun t q => XS.lshr X.here hx rfl (hb hby hd) rfl q) k
theorem own_lushr (X : Stand p l e R s m args below meth c T locs cells slots) (hx : p.tables.exec = Jvm.exec) (hby : c.code = bytes) {x : Int64} {y : Int32} (hd : decode bytes pc = .ok (.lushr, 1)) (hp : pc + 1 = pc') (k : GoP p e below Φ (T.setTop (mkF m pc' Ls (.long ((x.toUInt64 >>> (y &&& 0x3f).toInt64.toUInt64).toInt64) :: rest)))) : GoP p e below Φ (T.setTop (mkF m pc Ls (.int y :: .long x :: rest))) := by
  subst hp
  exact own_step (fun t q => XS.lushr X.here hx rfl (hb hby hd) rfl q) k
theorem own_ineg (X : Stand p l e R s m args below meth c T locs cells slots) (hx : p.tables.exec = Jvm.exec) (hby : c.code = bytes) {x : Int32} (hd : decode bytes pc = .ok (.ineg, 1)) (hp : pc + 1 = pc') (k : GoP p e below Φ (T.setTop (mkF m pc' Ls (.int (-x) :: rest)))) : GoP p e below Φ (T.setTop (mkF m pc Ls (.int x :: rest))) := by
  subst hp
  exact own_step (fun t q => XS.ineg X.here hx rfl (hb hby hd) rfl q) k
theorem own_lneg (X : Stand p l e R s m args below meth c T locs cells slots) (hx : p.tables.exec = Jvm.exec) (hby : c.code = bytes) {x : Int64} (hd : decode bytes pc = .ok (.lneg, 1)) (hp : pc + 1 = pc') (k : GoP p e below Φ (T.setTop (mkF m pc' Ls (.long (-x) :: rest)))) : GoP p e below Φ (T.setTop (mkF m pc Ls (.long x :: rest))) := by
  subst hp
  exact own_step (fun t q => XS.lneg X.here hx rfl (hb hby hd) rfl q) k
theorem own_i2l (X : Stand p l e R s m args below meth c T locs cells slots) (hx : p.tables.exec = Jvm.exec) (hby : c.code = bytes) {x : Int32} (hd : decode bytes pc = .ok (.i2l, 1)) (hp : pc + 1 = pc') (k : GoP p e below Φ (T.setTop (mkF m pc' Ls (.long (x.toInt64) :: rest)))) : GoP p e below Φ (T.setTop (mkF m pc Ls (.int x :: rest))) := by
  subst hp
  exact own_step (fun t q => XS.i2l X.here hx rfl (hb hby hd) rfl q) k
theorem own_l2i (X : Stand p l e R s m args below meth c T locs cells slots) (hx : p.tables.exec = Jvm.exec) (hby : c.code = bytes) {x : Int64} (hd : decode bytes pc = .ok (.l2i, 1)) (hp : pc + 1 = pc') (k : GoP p e below Φ (T.setTop (mkF m pc' Ls (.int (x.toInt32) :: rest)))) : GoP p e below Φ (T.setTop (mkF m pc Ls (.long x :: rest))) := by
  subst hp
  exact own_step (fun t q => XS.l2i X.here hx rfl (hb hby hd) rfl q) k
theorem own_i2b (X : Stand p l e R s m args below meth c T locs cells slots) (hx : p.tables.exec = Jvm.exec) (hby : c.code = bytes) {x : Int32} (hd : decode bytes pc = .ok (.i2b, 1)) (hp : pc + 1 = pc') (k : GoP p e below Φ (T.setTop (mkF m pc' Ls (.int (x.toInt8.toInt32) :: rest)))) : GoP p e below Φ (T.setTop (mkF m pc Ls (.int x :: rest))) := by
  subst hp
  exact own_step (fun t q => XS.i2b X.here hx rfl (hb hby hd) rfl q) k
theorem own_i2s (X : Stand p l e R s m args below meth c T locs cells slots) (hx : p.tables.exec = Jvm.exec) (hby : c.code = bytes) {x : Int32} (hd : decode bytes pc = .ok (.i2s, 1)) (hp : pc + 1 = pc') (k : GoP p e below Φ (T.setTop (mkF m pc' Ls (.int (x.toInt16.toInt32) :: rest)))) : GoP p e below Φ (T.setTop (mkF m pc Ls (.int x :: rest))) := by
  subst hp
  exact own_step (fun t q => XS.i2s X.here hx rfl (hb hby hd) rfl q) k
theorem own_i2c (X : Stand p l e R s m args below meth c T locs cells slots) (hx : p.tables.exec = Jvm.exec) (hby : c.code = bytes) {x : Int32} (hd : decode bytes pc = .ok (.i2c, 1)) (hp : pc + 1 = pc') (k : GoP p e below Φ (T.setTop (mkF m pc' Ls (.int (x.toUInt32.toUInt16.toUInt32.toInt32) :: rest)))) : GoP p e below Φ (T.setTop (mkF m pc Ls (.int x :: rest))) := by
  subst hp
  exact own_step (fun t q => XS.i2c X.here hx rfl (hb hby hd) rfl q) k
theorem own_irem (X : Stand p l e R s m args below meth c T locs cells slots) (hx : p.tables.exec = Jvm.exec) (hby : c.code = bytes) {x y : Int32} (hd : decode bytes pc = .ok (.irem, 1)) (hy : y ≠ 0) (hp : pc + 1 = pc') (k : GoP p e below Φ (T.setTop (mkF m pc' Ls (.int (x % y) :: rest)))) : GoP p e below Φ (T.setTop (mkF m pc Ls (.int y :: .int x :: rest))) := by
  subst hp
  exact own_step (fun t q => iremM X hx rfl (hb hby hd) rfl hy q) k
theorem own_idiv (X : Stand p l e R s m args below meth c T locs cells slots) (hx : p.tables.exec = Jvm.exec) (hby : c.code = bytes) {x y : Int32} (hd : decode bytes pc = .ok (.idiv, 1)) (hy : y ≠ 0) (hp : pc + 1 = pc') (k : GoP p e below Φ (T.setTop (mkF m pc' Ls (.int (x / y) :: rest)))) : GoP p e below Φ (T.setTop (mkF m pc Ls (.int y :: .int x :: rest))) := by
  subst hp
  exact own_step (fun t q => XS.idiv X.here hx rfl (hb hby hd) rfl hy q) k
theorem own_ldiv (X : Stand p l e R s m args below meth c T locs cells slots) (hx : p.tables.exec = Jvm.exec) (hby : c.code = bytes) {x y : Int64} (hd : decode bytes pc = .ok (.ldiv, 1)) (hy : y ≠ 0) (hp : pc + 1 = pc') (k : GoP p e below Φ (T.setTop (mkF m pc' Ls (.long (x / y) :: rest)))) : GoP p e below Φ (T.setTop (mkF m pc Ls (.long y :: .long x :: rest))) := by
  subst hp
  exact own_step (fun t q => XS.ldiv X.here hx rfl (hb hby hd) rfl hy q) k
theorem own_lrem (X : Stand p l e R s m args below meth c T locs cells slots) (hx : p.tables.exec = Jvm.exec) (hby : c.code = bytes) {x y : Int64} (hd : decode bytes pc = .ok (.lrem, 1)) (hy : y ≠ 0) (hp : pc + 1 = pc') (k : GoP p e below Φ (T.setTop (mkF m pc' Ls (.long (x % y) :: rest)))) : GoP p e below Φ (T.setTop (mkF m pc Ls (.long y :: .long x :: rest))) := by
  subst hp
  rw [← lrem_mod] at k
  exact own_step (fun t q => XS.lrem X.here hx rfl (hb hby hd) rfl hy q) k
theorem own_lcmp (X : Stand p l e R s m args below meth c T locs cells slots) (hx : p.tables.exec = Jvm.exec) (hby : c.code = bytes) {x y : Int64} (hd : decode bytes pc = .ok (.lcmp, 1)) (hp : pc + 1 = pc') (k : GoP p e below Φ (T.setTop (mkF m pc' Ls (.int (lcmpW x y) :: rest)))) : GoP p e below Φ (T.setTop (mkF m pc Ls (.long y :: .long x :: rest))) := by
  subst hp
  exact own_step (fun t q => XS.lcmp X.here hx rfl (hb hby hd) rfl q) k
theorem own_iconst (X : Stand p l e R s m args below meth c T locs cells slots) (hx : p.tables.exec = Jvm.exec) (hby : c.code = bytes) {i : Int} {v : Int32} (hd : decode bytes pc = .ok (.iconst i, 1)) (hv : Int32.ofInt i = v) (hp : pc + 1 = pc') (k : GoP p e below Φ (T.setTop (mkF m pc' Ls (.int v :: rest)))) : GoP p e below Φ (T.setTop (mkF m pc Ls (rest))) := by
  subst hp hv
  exact own_step (fun t q => XS.iconst X.here hx rfl (hb hby hd) q) k
theorem own_bipush (X : Stand p l e R s m args below meth c T locs cells slots) (hx : p.tables.exec = Jvm.exec) (hby : c.code = bytes) {i : Int} {v : Int32} (hd : decode bytes pc = .ok (.bipush i, 2)) (hv : (Int8.ofInt i).toInt32 = v) (hp : pc + 2 = pc') (k : GoP p e below Φ (T.setTop (mkF m pc' Ls (.int v :: rest)))) : GoP p e below Φ (T.setTop (mkF m pc Ls (rest))) := by
  subst hp hv
  exact own_step (fun t q => XS.bipush X.here hx rfl (hb hby hd) q) k
theorem own_sipush (X : Stand p l e R s m args below meth c T locs cells slots) (hx : p.tables.exec = Jvm.exec) (hby : c.code = bytes) {i : Int} {v : Int32} (hd : decode bytes pc = .ok (.sipush i, 3)) (hv : (Int16.ofInt i).toInt32 = v) (hp : pc + 3 = pc') (k : GoP p e below Φ (T.setTop (mkF m pc' Ls (.int v :: rest)))) : GoP p e below Φ (T.setTop (mkF m pc Ls (rest))) := by
  subst hp hv
  exact own_step (fun t q => XS.sipush X.here hx rfl (hb hby hd) q) k
theorem own_lconst (X : Stand p l e R s m args below meth c T locs cells slots) (hx : p.tables.exec = Jvm.exec) (hby : c.code = bytes) {i : Fin 2} {v : Int64} (hd : decode bytes pc = .ok (.lconst i, 1)) (hv : Int64.ofNat i = v) (hp : pc + 1 = pc') (k : GoP p e below Φ (T.setTop (mkF m pc' Ls (.long v :: rest)))) : GoP p e below Φ (T.setTop (mkF m pc Ls (rest))) := by
  subst hp hv
  exact own_step (fun t q => XS.lconst X.here hx rfl (hb hby hd) q) k
theorem own_aconst_null (X : Stand p l e R s m args below meth c T locs cells slots) (hx : p.tables.exec = Jvm.exec) (hby : c.code = bytes) (hd : decode bytes pc = .ok (.aconst_null, 1)) (hp : pc + 1 = pc') (k : GoP p e below Φ (T.setTop (mkF m pc' Ls (.null :: rest)))) : GoP p e below Φ (T.setTop (mkF m pc Ls (rest))) := by
  subst hp
  exact own_step (fun t q => XS.aconstNull X.here hx rfl (hb hby hd) q) k
theorem own_dup (X : Stand p l e R s m args below meth c T locs cells slots) (hx : p.tables.exec = Jvm.exec) (hby : c.code = bytes) {x : Value} (hd : decode bytes pc = .ok (.dup, 1)) (hc : x.category = 1) (hp : pc + 1 = pc') (k : GoP p e below Φ (T.setTop (mkF m pc' Ls (x :: x :: rest)))) : GoP p e below Φ (T.setTop (mkF m pc Ls (x :: rest))) := by
  subst hp
  exact own_step (fun t q => XS.dup X.here hx rfl (hb hby hd) rfl hc q) k
theorem own_pop (X : Stand p l e R s m args below meth c T locs cells slots) (hx : p.tables.exec = Jvm.exec) (hby : c.code = bytes) {x : Value} (hd : decode bytes pc = .ok (.pop, 1)) (hc : x.category = 1) (hp : pc + 1 = pc') (k : GoP p e below Φ (T.setTop (mkF m pc' Ls (rest)))) : GoP p e below Φ (T.setTop (mkF m pc Ls (x :: rest))) := by
  subst hp
  exact own_step (fun t q => XS.pop X.here hx rfl (hb hby hd) rfl hc q) k
theorem own_dup_x1 (X : Stand p l e R s m args below meth c T locs cells slots) (hx : p.tables.exec = Jvm.exec) (hby : c.code = bytes) {x y : Value} (hd : decode bytes pc = .ok (.dup_x1, 1)) (hc : x.category = 1) (hc' : y.category = 1) (hp : pc + 1 = pc') (k : GoP p e below Φ (T.setTop (mkF m pc' Ls (x :: y :: x :: rest)))) : GoP p e below Φ (T.setTop (mkF m pc Ls (x :: y :: rest))) := by
  subst hp
  exact own_step (fun t q => XS.dupX1 X.here hx rfl (hb hby hd) rfl hc hc' q) k
theorem own_dup2 (X : Stand p l e R s m args below meth c T locs cells slots) (hx : p.tables.exec = Jvm.exec) (hby : c.code = bytes) {x y : Value} (hd : decode bytes pc = .ok (.dup2, 1)) (hc : x.category = 1) (hc' : y.category = 1) (hp : pc + 1 = pc') (k : GoP p e below Φ (T.setTop (mkF m pc' Ls (x :: y :: x :: y :: rest)))) : GoP p e below Φ (T.setTop (mkF m pc Ls (x :: y :: rest))) := by
  subst hp
  exact own_step (fun t q => XT.dup2 X.here hx rfl (hb hby hd) rfl hc hc' q) k
theorem own_dup2L (X : Stand p l e R s m args below meth c T locs cells slots) (hx : p.tables.exec = Jvm.exec) (hby : c.code = bytes) {x : Int64} (hd : decode bytes pc = .ok (.dup2, 1)) (hp : pc + 1 = pc') (k : GoP p e below Φ (T.setTop (mkF m pc' Ls (.long x :: .long x :: rest)))) : GoP p e below Φ (T.setTop (mkF m pc Ls (.long x :: rest))) := by
  subst hp
  exact own_step (fun t q => XT.dup2L X.here hx rfl (hb hby hd) rfl q) k
theorem own_iinc (X : Stand p l e R s m args below meth c T locs cells slots) (hx : p.tables.exec = Jvm.exec) (hby : c.code = bytes) {k0 : Nat} {i : Int} {x v : Int32} (hd : decode bytes pc = .ok (.iinc k0 i, 3)) (hl : Ls[k0]? = some (.val (.int x))) (hv : Int32.ofInt i = v) (hl' : storeLocals Ls k0 (.int (x + v)) = some Ls') (hp : pc + 3 = pc') (k : GoP p e below Φ (T.setTop (mkF m pc' Ls' (rest)))) : GoP p e below Φ (T.setTop (mkF m pc Ls (rest))) := by
  subst hp hv
  exact own_step (fun t q => XS.iinc X.here hx rfl (hb hby hd) hl hl' q) k
theorem own_goto (X : Stand p l e R s m args below meth c T locs cells slots) (hx : p.tables.exec = Jvm.exec) (hby : c.code = bytes) {o : Int} (hd : decode bytes pc = .ok (.goto o, 3)) (ho : 0 ≤ (pc : Int) + o) (hp : ((pc : Int) + o).toNat = pc') (k : GoP p e below Φ (T.setTop (mkF m pc' Ls (rest)))) : GoP p e below Φ (T.setTop (mkF m pc Ls (rest))) :=
  own_step (fun t q => XS.goto X.here hx rfl (pc0 := pc) (pc' := pc') rfl (hb hby hd) ho hp q) k
theorem own_ifY (X : Stand p l e R s m args below meth c T locs cells slots) (hx : p.tables.exec = Jvm.exec) (hby : c.code = bytes) {cd : ClassFile.Cond} {o : Int} {x : Int32} (hd : decode bytes pc = .ok (.ifCond cd o, 3)) (hc : ifCond.holds cd x = true) (ho : 0 ≤ (pc : Int) + o) (hp : ((pc : Int) + o).toNat = pc') (k : GoP p e below Φ (T.setTop (mkF m pc' Ls (rest)))) : GoP p e below Φ (T.setTop (mkF m pc Ls (.int x :: rest))) :=
  own_step (fun t q => XS.ifYes X.here hx rfl (pc0 := pc) (pc' := pc') rfl (hb hby hd) rfl hc ho hp q) k
theorem own_ifN (X : Stand p l e R s m args below meth c T locs cells slots) (hx : p.tables.exec = Jvm.exec) (hby : c.code = bytes) {cd : ClassFile.Cond} {o : Int} {x : Int32} (hd : decode bytes pc = .ok (.ifCond cd o, 3)) (hc : ifCond.holds cd x = false) (hp : pc + 3 = pc') (k : GoP p e below Φ (T.setTop (mkF m pc' Ls (rest)))) : GoP p e below Φ (T.setTop (mkF m pc Ls (.int x :: rest))) := by
  subst hp
  exact own_step (fun t q => XS.ifNo X.here hx rfl (hb hby hd) rfl hc q) k
theorem own_icmpY (X : Stand p l e R s m args below meth c T locs cells slots) (hx : p.tables.exec = Jvm.exec) (hby : c.code = bytes) {cd : ClassFile.Cond} {o : Int} {x y : Int32} (hd : decode bytes pc = .ok (.if_icmp cd o, 3)) (hc : if_icmp.holds cd x y = true) (ho : 0 ≤ (pc : Int) + o) (hp : ((pc : Int) + o).toNat = pc') (k : GoP p e below Φ (T.setTop (mkF m pc' Ls (rest)))) : GoP p e below Φ (T.setTop (mkF m pc Ls (.int y :: .int x :: rest))) :=
  own_step (fun t q => XS.icmpYes X.here hx rfl (pc0 := pc) (pc' := pc') rfl (hb hby hd) rfl hc ho hp q) k
theorem own_icmpN (X : Stand p l e R s m args below meth c T locs cells slots) (hx : p.tables.exec = Jvm.exec) (hby : c.code = bytes) {cd : ClassFile.Cond} {o : Int} {x y : Int32} (hd : decode bytes pc = .ok (.if_icmp cd o, 3)) (hc : if_icmp.holds cd x y = false) (hp : pc + 3 = pc') (k : GoP p e below Φ (T.setTop (mkF m pc' Ls (rest)))) : GoP p e below Φ (T.setTop (mkF m pc Ls (.int y :: .int x :: rest))) := by
  subst hp
  exact own_step (fun t q => XS.icmpNo X.here hx rfl (hb hby hd) rfl hc q) k
theorem own_ifnullY (X : Stand p l e R s m args below meth c T locs cells slots) (hx : p.tables.exec = Jvm.exec) (hby : c.code = bytes) {o : Int} (hd : decode bytes pc = .ok (.ifnull o, 3)) (ho : 0 ≤ (pc : Int) + o) (hp : ((pc : Int) + o).toNat = pc') (k : GoP p e below Φ (T.setTop (mkF m pc' Ls (rest)))) : GoP p e below Φ (T.setTop (mkF m pc Ls (.null :: rest))) :=
  own_step (fun t q => XS.ifnullYes X.here hx rfl (pc0 := pc) (pc' := pc') rfl (hb hby hd) rfl ho hp q) k
theorem own_ifnullN (X : Stand p l e R s m args below meth c T locs cells slots) (hx : p.tables.exec = Jvm.exec) (hby : c.code = bytes) {o : Int} {b : Addr} (hd : decode bytes pc = .ok (.ifnull o, 3)) (hp : pc + 3 = pc') (k : GoP p e below Φ (T.setTop (mkF m pc' Ls (rest)))) : GoP p e below Φ (T.setTop (mkF m pc Ls (.ref b :: rest))) := by
  subst hp
  exact own_step (fun t q => XS.ifnullNo X.here hx rfl (hb hby hd) rfl q) k
theorem own_ifnonnullY (X : Stand p l e R s m args below meth c T locs cells slots) (hx : p.tables.exec = Jvm.exec) (hby : c.code = bytes) {b : Addr} {o : Int} (hd : decode bytes pc = .ok (.ifnonnull o, 3)) (ho : 0 ≤ (pc : Int) + o) (hp : ((pc : Int) + o).toNat = pc') (k : GoP p e below Φ (T.setTop (mkF m pc' Ls (rest)))) : GoP p e below Φ (T.setTop (mkF m pc Ls (.ref b :: rest))) :=
  own_step (fun t q => XS.ifnonnullYes X.here hx rfl (pc0 := pc) (pc' := pc') rfl (hb hby hd) rfl ho hp q) k
theorem own_ifnonnullN (X : Stand p l e R s m args below meth c T locs cells slots) (hx : p.tables.exec = Jvm.exec) (hby : c.code = bytes) {o : Int} (hd : decode bytes pc = .ok (.ifnonnull o, 3)) (hp : pc + 3 = pc') (k : GoP p e below Φ (T.setTop (mkF m pc' Ls (rest)))) : GoP p e below Φ (T.setTop (mkF m pc Ls (.null :: rest))) := by
  subst hp
  exact own_step (fun t q => XS.ifnonnullNo X.here hx rfl (hb hby hd) rfl q) k
theorem own_acmp (X : Stand p l e R s m args below meth c T locs cells slots) (hx : p.tables.exec = Jvm.exec) (hby : c.code = bytes) {cd : ACond} {x y : Value} {o : Int} (hd : decode bytes pc = .ok (.if_acmp cd o, 3)) (h1 : x.isRef = true) (h2 : y.isRef = true) {same : Bool} (hq : decide (x = y) = same) (ho : 0 ≤ (pc : Int) + o) (hp : pc' = if acV cd same = true then ((pc : Int) + o).toNat else pc + 3) (k : GoP p e below Φ (T.setTop (mkF m pc' Ls (rest)))) : GoP p e below Φ (T.setTop (mkF m pc Ls (y :: x :: rest))) :=
  own_step (fun t q => Jvm.RoadKit.acmp (g := mkF m pc Ls (y :: x :: rest)) X hx rfl h1 h2 (pc0 := pc) (pc' := pc') (same := same) rfl (hb hby hd) rfl hq ho hp q) k
theorem own_ldcI (X : Stand p l e R s m args below meth c T locs cells slots) (hx : p.tables.exec = Jvm.exec) (hby : c.code = bytes) (hZ : Z.Warmed39 s.vm) {own : String} {i : Nat} {v : Int32} (hown : s.vm.findClass own = some m.cls) (w : (Jvm.Cond.constant own i v).before a0 Z = true) (hd : decode bytes pc = .ok (.ldc i, 2)) (hp : pc + 2 = pc') (k : GoP p e below Φ (T.setTop (mkF m pc' Ls (.int v :: rest)))) : GoP p e below Φ (T.setTop (mkF m pc Ls (rest))) := by
  subst hp
  exact own_step (fun t q => Jvm.Stand.ldcI X hx hown (mvT hZ w) rfl (hb hby hd) q) k
theorem own_ldcWI (X : Stand p l e R s m args below meth c T locs cells slots) (hx : p.tables.exec = Jvm.exec) (hby : c.code = bytes) (hZ : Z.Warmed39 s.vm) {own : String} {i : Nat} {v : Int32} (hown : s.vm.findClass own = some m.cls) (w : (Jvm.Cond.constant own i v).before a0 Z = true) (hd : decode bytes pc = .ok (.ldc_w i, 3)) (hp : pc + 3 = pc') (k : GoP p e below Φ (T.setTop (mkF m pc' Ls (.int v :: rest)))) : GoP p e below Φ (T.setTop (mkF m pc Ls (rest))) := by
  subst hp
  exact own_step (fun t q => Jvm.Stand.ldcWI X hx hown (mvT hZ w) rfl (hb hby hd) q) k
theorem own_ldc2J (X : Stand p l e R s m args below meth c T locs cells slots) (hx : p.tables.exec = Jvm.exec) (hby : c.code = bytes) (hZ : Z.Warmed39 s.vm) {own : String} {i : Nat} {v : Int64} (hown : s.vm.findClass own = some m.cls) (w : (Jvm.Cond.constantLong own i v).before a0 Z = true) (hd : decode bytes pc = .ok (.ldc2_w i, 3)) (hp : pc + 3 = pc') (k : GoP p e below Φ (T.setTop (mkF m pc' Ls (.long v :: rest)))) : GoP p e below Φ (T.setTop (mkF m pc Ls (rest))) := by
  subst hp
  exact own_step (fun t q => Jvm.Stand.ldc2J X hx hown (mvT hZ w) rfl (hb hby hd) q) k
/-- a contract of one body at one heap: with these arguments it returns, and Q says what it leaves -/
def Con (l : Launch) (Z : State) (y : MethodName) (bytes : ByteArray) (maxL : Nat) (ret : Option FieldType) (ws : List Jvm.Cond) (rm : Room) (as' : Array Value) (h0 : Heap) (Q : Option Value → Heap → List Loc → Prop) : Prop :=
  MetFree l y (head1 (Jvm.Cond.code y bytes maxL ret :: ws) rm) (fun a U => a = as' ∧ Z.Warmed39 U.vm ∧ U.heap = h0) (fun _ _ _ _ _ => True) (fun _ U o U' => ∃ v L, o = .returned v ∧ Q v U'.heap L ∧ FrameEnd U o U' L rm.cells rm.slots)
/-- where a body may end: at a state that stands, with a value that Q takes -/
def Fin (p : Program) (l : Launch) (e : Env) (R : Room) (s : State) (m : MethodId) (args : Array Value) (below : List Frame) (meth : Method) (c : Code) (Q : Option Value → Heap → List Loc → Prop) (Φ : State → Prop) : Prop :=
  ∀ (T : State) (locs : List Loc) (cells slots : Nat) (v : Option Value), Stand p l e R s m args below meth c T locs cells slots → (meth.sig.returnType = none → v = none) → Q v T.heap locs → cells ≤ R.cells → slots ≤ R.slots →
    ∃ fs, (∀ (f : JFrame) (acts : List Action), f.method = m → f.locked = none → f.entered = [] → (doReturn e (T.setTop f) acts v).1 = T.setFrames fs) ∧ Φ (T.setFrames fs)
theorem Con.of {y : MethodName} {maxL : Nat} {ret : Option FieldType} {ws : List Jvm.Cond} {rm : Room} {as' : Array Value} {h0 : Heap} {Q : Option Value → Heap → List Loc → Prop} (hpn : plainName y.cls = true)
    (body : ∀ (p : Program) (e : Env) (s : State) (m : MethodId) (below : List Frame) (meth : Method) (c : Code) (T : State), Stand p l e rm s m as' below meth c T [] 0 0 → p.tables.exec = Jvm.exec → c.code = bytes → c.maxLocals = maxL → s.vm.findClass y.cls = some m.cls → meth.name = y.name → meth.sig.returnType = ret → T.heap = h0 → Z.Warmed39 s.vm → s.heap = h0 →
      ∀ Φ : State → Prop, Fin p l e rm s m as' below meth c Q Φ → GoP p e below Φ (T.setTop (entryFrame m as' maxL))) : Con l Z y bytes maxL ret ws rm as' h0 Q := by
  refine MetFree.of_bodySF (plainFor_of_name hpn) hisR ?_
  intro p e s m args below meth c s₁ Bd hml0 hP hK
  obtain ⟨rfl, hZ, hh⟩ := hP
  have e0 : s₁.heap = h0 := by rw [← hh, Bd.state]; rfl
  have hlk : meth.locks = false := Bd.notSynchronized
  obtain ⟨t, h1, o, h2⟩ := body p e s m below meth c s₁ (Stand.of_body Bd) Bd.exec Bd.bytes hml0 (findClass_of_methodNamed Bd.named) (name_of_methodNamed Bd.named Bd.method).1 Bd.returns e0 hZ hh
    (fun t => ∃ o, t.status = .running ∧ Ended t below o ∧ ∃ v L, o = .returned v ∧ Q v t.heap L ∧ FrameEnd s o t L rm.cells rm.slots)
    (fun T locs cells slots v X hv hQ hc hs => by
      obtain ⟨fs, hr, hrun, hended, hW, hsame⟩ := X.leave (v := v) hv hlk
      exact ⟨fs, hr, _, hrun, hended, v, locs, rfl, hQ, ⟨_, rfl⟩, hW, hsame.mono hc hs⟩)
  exact ⟨t, o, h1, h2⟩
theorem own_retV (X : Stand p l e R s m args below meth c T locs cells slots) (hx : p.tables.exec = Jvm.exec) (hby : c.code = bytes) {Q : Option Value → Heap → List Loc → Prop} (fin : Fin p l e R s m args below meth c Q Φ) {t : FieldType} (hret : meth.sig.returnType = some t) {w : Value} {i : Instr} (hn : narrow t w = w)
    (hi : (i = .ireturn ∧ (t = .int ∨ t = .boolean ∨ t = .byte ∨ t = .char ∨ t = .short) ∧ ∃ z, w = .int z) ∨ (i = .lreturn ∧ t = .long ∧ ∃ z, w = .long z) ∨ (i = .dreturn ∧ t = .double ∧ ∃ z, w = .double z) ∨ (i = .freturn ∧ t = .float ∧ ∃ z, w = .float z) ∨ (i = .areturn ∧ t.isReference = true ∧ w.isRef = true))
    (hd : decode bytes pc = .ok (i, 1)) (hc : cells ≤ R.cells) (hs : slots ≤ R.slots) (hQ : Q (some w) T.heap locs) : GoP p e below Φ (T.setTop (mkF m pc Ls (w :: rest))) := by
  obtain ⟨fs, hr, hΦ⟩ := fin _ _ _ _ (some w) X (fun q => by rw [hret] at q; cases q) hQ hc hs
  exact ⟨_, retOut X hx hret hn hi (hb hby hd) hr, hΦ⟩
theorem own_retI (X : Stand p l e R s m args below meth c T locs cells slots) (hx : p.tables.exec = Jvm.exec) (hby : c.code = bytes) {Q : Option Value → Heap → List Loc → Prop} (fin : Fin p l e R s m args below meth c Q Φ) (hret : meth.sig.returnType = some .int) {z : Int32} (hd : decode bytes pc = .ok (.ireturn, 1)) (hc : cells ≤ R.cells) (hs : slots ≤ R.slots) (hQ : Q (some (.int z)) T.heap locs) : GoP p e below Φ (T.setTop (mkF m pc Ls (.int z :: rest))) :=
  own_retV X hx hby fin hret rfl (Or.inl ⟨rfl, Or.inl rfl, z, rfl⟩) hd hc hs hQ
theorem own_retN (X : Stand p l e R s m args below meth c T locs cells slots) (hx : p.tables.exec = Jvm.exec) (hby : c.code = bytes) {Q : Option Value → Heap → List Loc → Prop} (fin : Fin p l e R s m args below meth c Q Φ) {t : FieldType} (hret : meth.sig.returnType = some t) (ht : t = .int ∨ t = .boolean ∨ t = .byte ∨ t = .char ∨ t = .short) {z : Int32} (hn : narrow t (.int z) = .int z) (hd : decode bytes pc = .ok (.ireturn, 1)) (hc : cells ≤ R.cells) (hs : slots ≤ R.slots) (hQ : Q (some (.int z)) T.heap locs) : GoP p e below Φ (T.setTop (mkF m pc Ls (.int z :: rest))) :=
  own_retV X hx hby fin hret hn (Or.inl ⟨rfl, ht, z, rfl⟩) hd hc hs hQ
theorem own_retJ (X : Stand p l e R s m args below meth c T locs cells slots) (hx : p.tables.exec = Jvm.exec) (hby : c.code = bytes) {Q : Option Value → Heap → List Loc → Prop} (fin : Fin p l e R s m args below meth c Q Φ) (hret : meth.sig.returnType = some .long) {z : Int64} (hd : decode bytes pc = .ok (.lreturn, 1)) (hc : cells ≤ R.cells) (hs : slots ≤ R.slots) (hQ : Q (some (.long z)) T.heap locs) : GoP p e below Φ (T.setTop (mkF m pc Ls (.long z :: rest))) :=
  own_retV X hx hby fin hret rfl (Or.inr (Or.inl ⟨rfl, rfl, z, rfl⟩)) hd hc hs hQ
theorem own_retA (X : Stand p l e R s m args below meth c T locs cells slots) (hx : p.tables.exec = Jvm.exec) (hby : c.code = bytes) {Q : Option Value → Heap → List Loc → Prop} (fin : Fin p l e R s m args below meth c Q Φ) {t : FieldType} (hret : meth.sig.returnType = some t) (ht : t.isReference = true) {w : Value} (hw : w.isRef = true) (hn : narrow t w = w) (hd : decode bytes pc = .ok (.areturn, 1)) (hc : cells ≤ R.cells) (hs : slots ≤ R.slots) (hQ : Q (some w) T.heap locs) : GoP p e below Φ (T.setTop (mkF m pc Ls (w :: rest))) :=
  own_retV X hx hby fin hret hn (Or.inr (Or.inr (Or.inr (Or.inr ⟨rfl, ht, hw⟩)))) hd hc hs hQ
theorem own_ret0 (X : Stand p l e R s m args below meth c T locs cells slots) (hx : p.tables.exec = Jvm.exec) (hby : c.code = bytes) {Q : Option Value → Heap → List Loc → Prop} (fin : Fin p l e R s m args below meth c Q Φ) (hret : meth.sig.returnType = none) (hd : decode bytes pc = .ok (.return_, 1)) (hc : cells ≤ R.cells) (hs : slots ≤ R.slots) (hQ : Q none T.heap locs) : GoP p e below Φ (T.setTop (mkF m pc Ls ([]))) := by
  obtain ⟨fs, hr, hΦ⟩ := fin _ _ _ _ none X (fun _ => rfl) hQ hc hs
  exact ⟨_, X.returnOut hx hret (hb hby hd) hr, hΦ⟩
theorem own_callS (X : Stand p l e R s m args below meth c T locs cells slots) (hx : p.tables.exec = Jvm.exec) (hby : c.code = bytes) (hZ : Z.Warmed39 s.vm) (hml : Ls.size = c.maxLocals) {own : String} {index : Nat} {y : MethodName} (hown : s.vm.findClass own = some m.cls) (w1 : (Jvm.Cond.methodLink own index y).before a0 Z = true) (w2 : (Jvm.Cond.static y).before a0 Z = true) (w3 : (Jvm.Cond.initialized y.cls).before a0 Z = true) {bytes' : ByteArray} {maxL : Nat} {ret : Option FieldType} (w4 : (Jvm.Cond.code y bytes' maxL ret).before a0 Z = true) (hy : y.cls ≠ "java/lang/invoke/MethodHandle" ∧ y.cls ≠ "java/lang/invoke/VarHandle") {rm : Room} {Q : Option Value → Heap → List Loc → Prop} (eT : T.heap = h) (W : Nat) (hf : rm.frames + 1 ≤ R.frames) (hl : W + (maxL + 11) + rm.locals ≤ R.locals) (hc : cells + rm.cells ≤ R.cells) (hs : slots + rm.slots ≤ R.slots) {argsL rest : List Value} {st : List Value} (hlen : ∀ sig, parseMethodDescriptor y.desc = some sig → argsL.length = sig.parameters.length) (hst : st = argsL.reverse ++ rest) (hM : Con l Z y bytes' maxL ret [] rm argsL.toArray h Q) (hW : (rest.map fun v => v.category).sum ≤ W) (hd : decode bytes pc = .ok (.invokestatic index, 3)) (hp : pc + 3 = pc') (k : ∀ (v : Option Value) (T' : State) (L : List Loc), Stand p l e R s m args below meth c T' (locs ++ L) (cells + rm.cells) (slots + rm.slots) → Q v T'.heap L → GoP p e below Φ (T'.setTop (mkF m pc' Ls (v.toList ++ rest)))) : GoP p e below Φ (T.setTop (mkF m pc Ls st)) := by
  obtain ⟨v, _, ⟨T', L', k', n'⟩, -, X', ⟨L, hQ, l1, y1, z1⟩, st'⟩ := Jvm.LawKit.callS X hx (y := y) hown (mvT hZ w1) (mvT hZ w2) (mvT hZ w3) (mvT hZ w4) hy (backOf (W := W) hM hZ w4 w3 hf hl) (g := mkF m pc Ls st) rfl hml (argsL := argsL) (rest := rest) hlen hst (by show 2 * 0 + _ ≤ _; omega) (hb hby hd) (fun _ _ => ⟨rfl, eT, hc, hs⟩)
  dsimp only [Pt.U, Pt.locs, Pt.cells, Pt.slots] at X' l1 y1 z1 st' hQ
  subst l1 y1 z1 hp
  exact own_step st' (k _ _ _ X' hQ)
theorem own_callI (X : Stand p l e R s m args below meth c T locs cells slots) (hx : p.tables.exec = Jvm.exec) (hby : c.code = bytes) (hZ : Z.Warmed39 s.vm) (hml : Ls.size = c.maxLocals) {own : String} {index : Nat} {y : MethodName} (hown : s.vm.findClass own = some m.cls) {a : Addr} (hn : y.name = "<init>") (w1 : (Jvm.Cond.methodLink own index y).before a0 Z = true) (w2 : (Jvm.Cond.instanceMethod y).before a0 Z = true) (w3 : (Jvm.Cond.initialized y.cls).before a0 Z = true) {bytes' : ByteArray} {maxL : Nat} (w4 : (Jvm.Cond.code y bytes' maxL none).before a0 Z = true) (hy : y.cls ≠ "java/lang/invoke/MethodHandle" ∧ y.cls ≠ "java/lang/invoke/VarHandle") {rm : Room} {Q : Option Value → Heap → List Loc → Prop} (eT : T.heap = h) (W : Nat) (hf : rm.frames + 1 ≤ R.frames) (hl : W + (maxL + 11) + rm.locals ≤ R.locals) (hc : cells + rm.cells ≤ R.cells) (hs : slots + rm.slots ≤ R.slots) {argsL rest : List Value} {st : List Value} (hlen : ∀ sig, parseMethodDescriptor y.desc = some sig → argsL.length = sig.parameters.length) (hst : st = argsL.reverse ++ .ref a :: rest) (hW : (rest.map fun v => v.category).sum ≤ W) (hM : Con l Z y bytes' maxL none [] rm (.ref a :: argsL).toArray h Q) (hd : decode bytes pc = .ok (.invokespecial index, 3)) (hp : pc + 3 = pc') (k : ∀ (v : Option Value) (T' : State) (L : List Loc), Stand p l e R s m args below meth c T' (locs ++ L) (cells + rm.cells) (slots + rm.slots) → Q v T'.heap L → GoP p e below Φ (T'.setTop (mkF m pc' Ls (v.toList ++ rest)))) : GoP p e below Φ (T.setTop (mkF m pc Ls st)) := by
  obtain ⟨v, _, ⟨T', L', k', n'⟩, -, X', ⟨L, hQ, l1, y1, z1⟩, st'⟩ := X.specialBack hx (y := y) hn hown (mvT hZ w1) (mvT hZ w2) (mvT hZ w4) hy (backOf (W := W) hM hZ w4 w3 hf hl) (g := mkF m pc Ls st) rfl hml (Steps.refl _) (a := a) (argsL := argsL) (rest := rest) hlen hst (by show 2 * 0 + _ ≤ _; omega) (hb hby hd) (fun _ _ => ⟨rfl, eT, hc, hs⟩)
  dsimp only [Pt.U, Pt.locs, Pt.cells, Pt.slots] at X' l1 y1 z1 st' hQ
  subst l1 y1 z1 hp
  exact own_trans st' (k _ _ _ X' hQ)
theorem own_callV (X : Stand p l e R s m args below meth c T locs cells slots) (hx : p.tables.exec = Jvm.exec) (hby : c.code = bytes) (hZ : Z.Warmed39 s.vm) (hml : Ls.size = c.maxLocals) {own : String} {index : Nat} {y : MethodName} (hown : s.vm.findClass own = some m.cls) {C : String} {b : Addr} (w1 : (Jvm.Cond.methodLink own index y).before a0 Z = true) (w2 : (Jvm.Cond.declares y).before a0 Z = true) (w5 : (Jvm.Cond.selects C y y).before a0 Z = true) (w6 : (Jvm.Cond.instanceMethod y).before a0 Z = true) (w3 : (Jvm.Cond.initialized y.cls).before a0 Z = true) {bytes' : ByteArray} {maxL : Nat} {ret : Option FieldType} (w4 : (Jvm.Cond.code y bytes' maxL ret).before a0 Z = true) (hy : y.cls ≠ "java/lang/invoke/MethodHandle" ∧ y.cls ≠ "java/lang/invoke/VarHandle") {rm : Room} {Q : Option Value → Heap → List Loc → Prop} (eT : T.heap = h) (W : Nat) (hf : rm.frames + 1 ≤ R.frames) (hl : W + (maxL + 11) + rm.locals ≤ R.locals) (hc : cells + rm.cells ≤ R.cells) (hs : slots + rm.slots ≤ R.slots) {argsL rest : List Value} {st : List Value} (hlen : ∀ sig, parseMethodDescriptor y.desc = some sig → argsL.length = sig.parameters.length) (hst : st = argsL.reverse ++ .ref b :: rest) (hW : (rest.map fun v => v.category).sum ≤ W) (E : Exa Z h b C) (hM : Con l Z y bytes' maxL ret [] rm (.ref b :: argsL).toArray h Q) (hd : decode bytes pc = .ok (.invokevirtual index, 3)) (hp : pc + 3 = pc') (k : ∀ (v : Option Value) (T' : State) (L : List Loc), Stand p l e R s m args below meth c T' (locs ++ L) (cells + rm.cells) (slots + rm.slots) → Q v T'.heap L → GoP p e below Φ (T'.setTop (mkF m pc' Ls (v.toList ++ rest)))) : GoP p e below Φ (T.setTop (mkF m pc Ls st)) := by
  obtain ⟨cq, kq, qa, qb, qc⟩ := isOf hZ eT E
  obtain ⟨v, _, ⟨T', L', k', n'⟩, -, X', ⟨L, hQ, l1, y1, z1⟩, st'⟩ := X.virtualBack hx (y := y) (z := y) hown (mvT hZ w1) (mvT hZ w2) (notFace_of_selects (args := #[]) (mvT hZ w5)) (mvT hZ w5) (mvT hZ w6) hy (backOf (W := W) hM hZ w4 w3 hf hl) qa qc (g := mkF m pc Ls st) rfl hml (Steps.refl _) (argsL := argsL) (rest := rest) hlen hst (by show 2 * 0 + _ ≤ _; omega) (hb hby hd) (fun _ _ => ⟨rfl, eT, hc, hs⟩)
  dsimp only [Pt.U, Pt.locs, Pt.cells, Pt.slots] at X' l1 y1 z1 st' hQ
  subst l1 y1 z1 hp
  exact own_trans st' (k _ _ _ X' hQ)
theorem own_callU (X : Stand p l e R s m args below meth c T locs cells slots) (hx : p.tables.exec = Jvm.exec) (hby : c.code = bytes) (hZ : Z.Warmed39 s.vm) (hml : Ls.size = c.maxLocals) {own : String} {index : Nat} {x0 y : MethodName} (hown : s.vm.findClass own = some m.cls) {C owner : String} {b : Addr} (w1 : (Jvm.Cond.methodLink own index x0).before a0 Z = true) (ws : (Jvm.Cond.sameMethod x0.cls owner x0.name x0.desc).before a0 Z = true) (w2 : (Jvm.Cond.declares ⟨owner, x0.name, x0.desc⟩).before a0 Z = true) (w5 : (Jvm.Cond.selects C x0 y).before a0 Z = true) (w6 : (Jvm.Cond.instanceMethod y).before a0 Z = true) (w3 : (Jvm.Cond.initialized y.cls).before a0 Z = true) {bytes' : ByteArray} {maxL : Nat} {ret : Option FieldType} (w4 : (Jvm.Cond.code y bytes' maxL ret).before a0 Z = true) (hy : owner ≠ "java/lang/invoke/MethodHandle" ∧ owner ≠ "java/lang/invoke/VarHandle") {rm : Room} {Q : Option Value → Heap → List Loc → Prop} (eT : T.heap = h) (W : Nat) (hf : rm.frames + 1 ≤ R.frames) (hl : W + (maxL + 11) + rm.locals ≤ R.locals) (hc : cells + rm.cells ≤ R.cells) (hs : slots + rm.slots ≤ R.slots) {argsL rest : List Value} {st : List Value} (hlen : ∀ sig, parseMethodDescriptor x0.desc = some sig → argsL.length = sig.parameters.length) (hst : st = argsL.reverse ++ .ref b :: rest) (hW : (rest.map fun v => v.category).sum ≤ W) (E : Exa Z h b C) (hM : Con l Z y bytes' maxL ret [] rm (.ref b :: argsL).toArray h Q) (hd : decode bytes pc = .ok (.invokevirtual index, 3)) (hp : pc + 3 = pc') (k : ∀ (v : Option Value) (T' : State) (L : List Loc), Stand p l e R s m args below meth c T' (locs ++ L) (cells + rm.cells) (slots + rm.slots) → Q v T'.heap L → GoP p e below Φ (T'.setTop (mkF m pc' Ls (v.toList ++ rest)))) : GoP p e below Φ (T.setTop (mkF m pc Ls st)) := by
  obtain ⟨cq, kq, qa, qb, qc⟩ := isOf hZ eT E
  obtain ⟨v, _, ⟨T', L', k', n'⟩, -, X', ⟨L, hQ, l1, y1, z1⟩, st'⟩ := X.virtualBackUp hx (x := x0) (y := y) hown (mvT hZ w1) (mvT hZ ws) (mvT hZ w2) hy (mvT hZ w5) (mvT hZ w6) (backOf (W := W) hM hZ w4 w3 hf hl) qa qc (g := mkF m pc Ls st) rfl hml (Steps.refl _) (argsL := argsL) (rest := rest) hlen hst (by show 2 * 0 + _ ≤ _; omega) (hb hby hd) (fun _ _ => ⟨rfl, eT, hc, hs⟩)
  dsimp only [Pt.U, Pt.locs, Pt.cells, Pt.slots] at X' l1 y1 z1 st' hQ
  subst l1 y1 z1 hp
  exact own_trans st' (k _ _ _ X' hQ)
theorem own_callF (X : Stand p l e R s m args below meth c T locs cells slots) (hx : p.tables.exec = Jvm.exec) (hby : c.code = bytes) (hZ : Z.Warmed39 s.vm) (hml : Ls.size = c.maxLocals) {own : String} {index : Nat} {x0 y : MethodName} (hown : s.vm.findClass own = some m.cls) {count : Nat} {C : String} {b : Addr} (w1 : (Jvm.Cond.methodLink own index x0).before a0 Z = true) (w2 : (Jvm.Cond.declares x0).before a0 Z = true) (w7 : (Jvm.Cond.interfaceMethod x0.cls x0.cls x0.name x0.desc).before a0 Z = true) (w5 : (Jvm.Cond.selects C x0 y).before a0 Z = true) (w6 : (Jvm.Cond.instanceMethod y).before a0 Z = true) (w8 : (Jvm.Cond.publicMethod y).before a0 Z = true) (w9 : (Jvm.Cond.unhidden C x0.name x0.desc).before a0 Z = true) (w10 : (Jvm.Cond.castable C x0.cls).before a0 Z = true) (w3 : (Jvm.Cond.initialized y.cls).before a0 Z = true) (q7 : ((Jvm.Cond.interfaceMethod x0.cls x0.cls x0.name x0.desc).onTables && (Jvm.Cond.interfaceMethod x0.cls x0.cls x0.name x0.desc).keepsFace) = true) {bytes' : ByteArray} {maxL : Nat} {ret : Option FieldType} (w4 : (Jvm.Cond.code y bytes' maxL ret).before a0 Z = true) (hy : x0.cls ≠ "java/lang/invoke/MethodHandle" ∧ x0.cls ≠ "java/lang/invoke/VarHandle") {rm : Room} {Q : Option Value → Heap → List Loc → Prop} (eT : T.heap = h) (W : Nat) (hf : rm.frames + 1 ≤ R.frames) (hl : W + (maxL + 11) + rm.locals ≤ R.locals) (hc : cells + rm.cells ≤ R.cells) (hs : slots + rm.slots ≤ R.slots) {argsL rest : List Value} {st : List Value} (hlen : ∀ sig, parseMethodDescriptor x0.desc = some sig → argsL.length = sig.parameters.length) (hst : st = argsL.reverse ++ .ref b :: rest) (hW : (rest.map fun v => v.category).sum ≤ W) (E : Exa Z h b C) (hM : Con l Z y bytes' maxL ret [] rm (.ref b :: argsL).toArray h Q) (hd : decode bytes pc = .ok (.invokeinterface index count, 5)) (hp : pc + 5 = pc') (k : ∀ (v : Option Value) (T' : State) (L : List Loc), Stand p l e R s m args below meth c T' (locs ++ L) (cells + rm.cells) (slots + rm.slots) → Q v T'.heap L → GoP p e below Φ (T'.setTop (mkF m pc' Ls (v.toList ++ rest)))) : GoP p e below Φ (T.setTop (mkF m pc Ls st)) := by
  obtain ⟨cq, kq, qa, qb, qc⟩ := isOf hZ eT E
  obtain ⟨v, _, ⟨T', L', k', n'⟩, -, X', ⟨L, hQ, l1, y1, z1⟩, st'⟩ := X.interfaceBack hx (xi := x0) (y := y) hown (mvT hZ w1) (mvT hZ w2) (mvT hZ w7 q7) (mvT hZ w5) (mvT hZ w6) (mvT hZ w8) (mvT hZ w9) (mvT hZ w10) hy (backOf (W := W) hM hZ w4 w3 hf hl) qa qb qc (g := mkF m pc Ls st) rfl hml (Steps.refl _) (argsL := argsL) (rest := rest) hlen hst (by show 2 * 0 + _ ≤ _; omega) (hb hby hd) (fun _ _ => ⟨rfl, eT, hc, hs⟩)
  dsimp only [Pt.U, Pt.locs, Pt.cells, Pt.slots] at X' l1 y1 z1 st' hQ
  subst l1 y1 z1 hp
  exact own_trans st' (k _ _ _ X' hQ)
theorem own_callP (X : Stand p l e R s m args below meth c T locs cells slots) (hx : p.tables.exec = Jvm.exec) (hby : c.code = bytes) (hZ : Z.Warmed39 s.vm) (hml : Ls.size = c.maxLocals) {own : String} {index : Nat} {y : MethodName} (hown : s.vm.findClass own = some m.cls) {C : String} {b : Addr} (w1 : (Jvm.Cond.methodLink own index y).before a0 Z = true) (w2 : (Jvm.Cond.privateMethod y).before a0 Z = true) (w5 : (Jvm.Cond.selects y.cls y y).before a0 Z = true) (w6 : (Jvm.Cond.instanceMethod y).before a0 Z = true) (w3 : (Jvm.Cond.initialized y.cls).before a0 Z = true) {bytes' : ByteArray} {maxL : Nat} {ret : Option FieldType} (w4 : (Jvm.Cond.code y bytes' maxL ret).before a0 Z = true) (hy : y.cls ≠ "java/lang/invoke/MethodHandle" ∧ y.cls ≠ "java/lang/invoke/VarHandle") {rm : Room} {Q : Option Value → Heap → List Loc → Prop} (eT : T.heap = h) (W : Nat) (hf : rm.frames + 1 ≤ R.frames) (hl : W + (maxL + 11) + rm.locals ≤ R.locals) (hc : cells + rm.cells ≤ R.cells) (hs : slots + rm.slots ≤ R.slots) {argsL rest : List Value} {st : List Value} (hlen : ∀ sig, parseMethodDescriptor y.desc = some sig → argsL.length = sig.parameters.length) (hst : st = argsL.reverse ++ .ref b :: rest) (hW : (rest.map fun v => v.category).sum ≤ W) (E : Exa Z h b C) (hM : Con l Z y bytes' maxL ret [] rm (.ref b :: argsL).toArray h Q) (hd : decode bytes pc = .ok (.invokevirtual index, 3)) (hp : pc + 3 = pc') (k : ∀ (v : Option Value) (T' : State) (L : List Loc), Stand p l e R s m args below meth c T' (locs ++ L) (cells + rm.cells) (slots + rm.slots) → Q v T'.heap L → GoP p e below Φ (T'.setTop (mkF m pc' Ls (v.toList ++ rest)))) : GoP p e below Φ (T.setTop (mkF m pc Ls st)) := by
  obtain ⟨cq, q1, q2⟩ := E.cell
  obtain ⟨v, _, ⟨T', L', k', n'⟩, -, X', ⟨L, hQ, l1, y1, z1⟩, st'⟩ := X.privateBack hx (y := y) hown (mvT hZ w1) (mvT hZ w6) (mvT hZ w5) (Cond.privateMethod_at (mvP hZ w2 (args := #[]))) (mvT hZ w4) hy (backOf (W := W) hM hZ w4 w3 hf hl) (g := mkF m pc Ls st) rfl hml (Steps.refl _) (a := b) (by rw [eT]; exact q1) q2 (argsL := argsL) (rest := rest) hlen hst (by show 2 * 0 + _ ≤ _; omega) (hb hby hd) (fun _ _ => ⟨rfl, eT, hc, hs⟩)
  dsimp only [Pt.U, Pt.locs, Pt.cells, Pt.slots] at X' l1 y1 z1 st' hQ
  subst l1 y1 z1 hp
  exact own_trans st' (k _ _ _ X' hQ)
theorem own_fldI {args : Array Value} {s : State} {t : Term} {a : Addr} {C n d : String} {k : Int32} (ev : t.eval args s none [] s = some (.ref a)) (q : (Jvm.Cond.eq (Jvm.Term.field t C n d) (Jvm.Term.int k)).value args s none s [] = some true) : Fld s s.heap a C n d (.int k) := by
  obtain ⟨x, y, e1, e2, k1, k2⟩ := cmp_v (Or.inl q)
  have ey : y = .int k := Option.some.inj (e2.symm.trans (Term.int_eval k))
  subst ey
  obtain ⟨z, rfl⟩ : ∃ z, x = .int z := k2
  have ez : z = k := by simpa [Cond.value, e1, e2] using q
  subst ez
  exact Fld.start ((fld_at ev).symm.trans e1)
theorem own_i32 (x : Int32) (k : Int) (hk : (Int32.ofInt k).toInt = k) (h : x.toInt = k) : x = Int32.ofInt k := Int32.toInt_inj.mp (h.trans hk.symm)
theorem own_stakeep {C n d : String} {w : Value} {h' : Heap} {ws : List Addr} (F : Sta Z h C n d w) (K : Keep h h' ws) (q : ∀ x ∈ ws, ∀ c : Cell, h[x]? = some c → c.vm.isStatics = false) : Sta Z h' C n d w := by
  obtain ⟨cf, i, k, f, st, cell, h1, h2, h3, h4, h5, h6, h7⟩ := F
  exact ⟨cf, i, k, f, st, cell, h1, h2, h3, h4, K.2.1 st cell h5 (fun y => by rw [q st y cell h5] at h6; cases h6), h6, h7⟩
theorem own_plainE {a : Addr} {C : String} (F : Exa Z h a C) : ∀ c : Cell, h[a]? = some c → c.vm.isStatics = false := fun c hc => by
  obtain ⟨cell, k, h1, h2, h3, h4, -⟩ := F
  cases hc.symm.trans h1; exact h4
theorem own_plainV {a : Addr} {k : ClassId} {ty : FieldType} {n : Int32} {vs : List Value} {d : Value} (F : Arv Z h a k ty n vs d) : ∀ c : Cell, h[a]? = some c → c.vm.isStatics = false := fun c hc => by
  obtain ⟨cell, A, -⟩ := F
  cases hc.symm.trans A.1; exact A.plain
/-- an int array of length n, of whatever ints -/
def IA (Z : State) (h : Heap) (a : Addr) (n : Int32) : Prop := ∃ cl : Cell, Arr Z h a cl .int ∧ cl.slots.size = n.toNatClampNeg ∧ ¬ n < 0 ∧ ∀ i, i < cl.slots.size → ∃ x, cl.slots[i]? = some (.int x)
theorem IA.new {a : Addr} {k : ClassId} {n : Int32} (A : Arr Z h a (newA k .int n) .int) (q : ¬ n < 0) : IA Z h a n :=
  ⟨_, A, sz_new _ _ _, q, fun i hi => ⟨0, by simp [newA] at hi ⊢; simp [defaultValue, hi]⟩⟩
theorem own_iastoreA (X : Stand p l e R s m args below meth c T locs cells slots) (hx : p.tables.exec = Jvm.exec) (hby : c.code = bytes) (hZ : Z.Warmed39 s.vm) (eT : T.heap = h) {a : Addr} {n j x : Int32} (F : IA Z h a n) (hj : ¬ j < 0 ∧ j < n) (hd : decode bytes pc = .ok (.iastore, 1)) (hp : pc + 1 = pc') (k : ∀ (T' : State) (h' : Heap), Stand p l e R s m args below meth c T' (locs ++ [⟨a, j.toNatClampNeg⟩]) cells slots → T'.heap = h' → Wr h h' a j.toNatClampNeg (.int x) → IA Z h' a n → GoP p e below Φ (T'.setTop (mkF m pc' Ls rest))) : GoP p e below Φ (T.setTop (mkF m pc Ls (.int x :: .int j :: .ref a :: rest))) := by
  subst hp
  obtain ⟨cl, A, S, N, H⟩ := F
  obtain ⟨T', h', X', e', W', st'⟩ := stI X hx hZ eT A (j := j) (x := x) (inb_of S hj) (g := mkF m pc Ls (.int x :: .int j :: .ref a :: rest)) rfl rfl (hb hby hd)
  refine own_step st' (k T' h' X' e' W' ⟨_, A.same W', by rw [sz_set]; exact S, N, fun i hi => ?_⟩)
  rw [sz_set] at hi
  by_cases q : i = j.toNatClampNeg
  · subst q; exact ⟨x, by simp [Cell.setSlot, hi]⟩
  · obtain ⟨y, hy⟩ := H i hi
    exact ⟨y, by rw [show (cl.setSlot j.toNatClampNeg (.int x)).slots[i]? = cl.slots[i]? from Array.getElem?_setIfInBounds_ne (Ne.symm q)]; exact hy⟩
theorem own_ialoadA (X : Stand p l e R s m args below meth c T locs cells slots) (hx : p.tables.exec = Jvm.exec) (hby : c.code = bytes) (hZ : Z.Warmed39 s.vm) (eT : T.heap = h) {a : Addr} {n j : Int32} (F : IA Z h a n) (hj : ¬ j < 0 ∧ j < n) (hd : decode bytes pc = .ok (.iaload, 1)) (hp : pc + 1 = pc') (k : ∀ w : Int32, GoP p e below Φ (T.setTop (mkF m pc' Ls (.int w :: rest)))) : GoP p e below Φ (T.setTop (mkF m pc Ls (.int j :: .ref a :: rest))) := by
  subst hp
  obtain ⟨cl, A, S, N, H⟩ := F
  have q := inb_of S hj
  obtain ⟨w, hw⟩ := H j.toNatClampNeg (Nat.lt_of_not_le fun y => q (Or.inr y))
  exact own_step (fun t u => X.iaload hx (j := j) (v := .int w) (by rw [eT]; exact A.1) (State.isArrayOf_alike hZ.alike A.2.1) A.2.2 q hw (g := mkF m pc Ls (.int j :: .ref a :: rest)) rfl rfl (hb hby hd) t u) (k w)
theorem own_alenA (X : Stand p l e R s m args below meth c T locs cells slots) (hx : p.tables.exec = Jvm.exec) (hby : c.code = bytes) (hZ : Z.Warmed39 s.vm) (eT : T.heap = h) {a : Addr} {n : Int32} (F : IA Z h a n) (hd : decode bytes pc = .ok (.arraylength, 1)) (hp : pc + 1 = pc') (k : GoP p e below Φ (T.setTop (mkF m pc' Ls (.int n :: rest)))) : GoP p e below Φ (T.setTop (mkF m pc Ls (.ref a :: rest))) := by
  subst hp
  obtain ⟨cl, A, S, N, H⟩ := F
  rw [← len_of S N] at k
  exact own_step (fun t u => X.arraylength hx (by rw [eT]; exact A.1) (State.isArrayOf_alike hZ.alike A.2.1) (g := mkF m pc Ls (.ref a :: rest)) rfl rfl (hb hby hd) t u) k
end OwnKit
section OwnKitW
variable {p : Program} {l : Launch} {e : Env} {R : Room} {s : State} {vm0 : Vm} {m : MethodId} {args : Array Value} {below : List Frame} {meth : Method} {c : Code} {T : State} {locs : List Loc} {cells slots : Nat} {bytes : ByteArray} {Φ : State → Prop} {pc pc' : Nat} {Ls Ls' : Array Slot} {rest : List Value} {Z : State} {a0 : Array Value} {h : Heap} {k0 : Nat}
def ConW (l : Launch) (Z : State) (y : MethodName) (bytes : ByteArray) (maxL : Nat) (ret : Option FieldType) (ws : List Jvm.Cond) (rm : Room) (as' : Array Value) (h0 : Heap) (Q : Option Value → Heap → List Loc → Prop) : Prop :=
  MetFree l y (head1 (Jvm.Cond.code y bytes maxL ret :: ws) rm) (fun a U => a = as' ∧ Z.Warmed39 U.vm ∧ U.heap = h0) (fun _ _ _ _ _ => True) (fun _ U o U' => ∃ v L, o = .returned v ∧ Q v U'.heap L ∧ ReturnedEndW U o U' L rm.cells rm.slots)
def FinW (p : Program) (l : Launch) (e : Env) (R : Room) (s : State) (m : MethodId) (args : Array Value) (below : List Frame) (meth : Method) (c : Code) (Q : Option Value → Heap → List Loc → Prop) (Φ : State → Prop) : Prop :=
  ∀ (vm0 : Vm) (k0 : Nat), s.Since vm0 k0 → Fin p l e R (s.setVm vm0) m args below meth c (fun v h L => Q v h L ∧ k0 ≤ h.size) Φ
theorem ConW.of {y : MethodName} {maxL : Nat} {ret : Option FieldType} {ws : List Jvm.Cond} {rm : Room} {as' : Array Value} {h0 : Heap} {Q : Option Value → Heap → List Loc → Prop} (hpn : plainName y.cls = true)
    (body : ∀ (p : Program) (e : Env) (s : State) (m : MethodId) (below : List Frame) (meth : Method) (c : Code) (T : State) (vm0 : Vm) (k0 : Nat), Stand p l e rm (s.setVm vm0) m as' below meth c T [] 0 0 → p.tables.exec = Jvm.exec → c.code = bytes → c.maxLocals = maxL → vm0.findClass y.cls = some m.cls → meth.name = y.name → meth.sig.returnType = ret → T.heap = h0 → Z.Warmed39 vm0 → s.heap = h0 → s.Since vm0 k0 → k0 ≤ h0.size →
      ∀ Φ : State → Prop, FinW p l e rm s m as' below meth c Q Φ → GoP p e below Φ (T.setTop (entryFrame m as' maxL))) : ConW l Z y bytes maxL ret ws rm as' h0 Q := by
  refine MetFree.of_bodySF (plainFor_of_name hpn) hisR ?_
  intro p e s m args below meth c s₁ Bd hml0 hP hK
  obtain ⟨rfl, hZ, hh⟩ := hP
  have e0 : s₁.heap = h0 := by rw [← hh, Bd.state]; rfl
  have hlk : meth.locks = false := Bd.notSynchronized
  obtain ⟨t, h1, o, h2⟩ := body p e s m below meth c s₁ s.vm h0.size (Stand.of_body Bd) Bd.exec Bd.bytes hml0 (findClass_of_methodNamed Bd.named) (name_of_methodNamed Bd.named Bd.method).1 Bd.returns e0 hZ hh ((State.WarmedH.refl s).since _) (Nat.le_refl _)
    (fun t => ∃ o, t.status = .running ∧ Ended t below o ∧ ∃ v L, o = .returned v ∧ Q v t.heap L ∧ ReturnedEndW s o t L rm.cells rm.slots)
    (fun vm0 k0 hS T locs cells slots v X hv hQ hc hs => by
      obtain ⟨fs, hr, hrun, hended, hW, hsame⟩ := X.leave (v := v) hv hlk
      obtain ⟨r1, r2, r3⟩ := hS.ended hW hQ.2 hsame
      exact ⟨fs, hr, _, hrun, hended, v, locs, rfl, hQ.1, ⟨_, rfl⟩, r1, r2, r3.mono hc hs⟩)
  exact ⟨t, o, h1, h2⟩
theorem own_ldcS (X : Stand p l e R (s.setVm vm0) m args below meth c T locs cells slots) (hx : p.tables.exec = Jvm.exec) (hby : c.code = bytes) (hZ : Z.Warmed39 vm0) {own text : String} {i : Nat} (hown : vm0.findClass own = some m.cls) (w : (Jvm.Cond.stringLink own i text).before a0 Z = true) (wS : ∀ a ∈ Bundle.stringAtoms, a.before a0 Z = true) (eT : T.heap = h) (hS : s.Since vm0 k0) (hk : k0 ≤ h.size) (hd : decode bytes pc = .ok (.ldc i, 2)) (n : Nat) (hn : 4 * text.toList.length ≤ n) (hbig : n ≤ 536870912) (hc : cells + 2 ≤ R.cells) (hl : slots + (n + 4) ≤ R.slots) (hp : pc + 2 = pc')
    (k : ∀ (a : Addr) (T' : State) (h' : Heap) (k1 : Nat), Stand p l e R (s.setVm T'.vm) m args below meth c T' locs (cells + 2) (slots + (n + 4)) → T'.heap = h' → Ext h h' → s.Since T'.vm k1 → k1 ≤ h'.size → Z.Warmed39 T'.vm → T'.vm.findClass own = some m.cls → GoP p e below Φ (T'.setTop (mkF m pc' Ls (.ref a :: rest)))) : GoP p e below Φ (T.setTop (mkF m pc Ls (rest))) := by
  subst hp
  obtain ⟨a, T', h', k1, X', e', E', hS', hk', hZ', hown', st'⟩ := Jvm.RoadKit.ldcS X hx hZ hown w wS eT hS hk (g := mkF m pc Ls rest) rfl (hb hby hd) hn hbig hc hl
  exact own_step st' (k a T' h' k1 X' e' E' hS' hk' hZ' hown')
theorem own_callVW (X : Stand p l e R (s.setVm vm0) m args below meth c T locs cells slots) (hx : p.tables.exec = Jvm.exec) (hby : c.code = bytes) (hZ : Z.Warmed39 vm0) (hml : Ls.size = c.maxLocals) {own : String} {index : Nat} {y : MethodName} (hown : vm0.findClass own = some m.cls) {C : String} {b : Addr} (w1 : (Jvm.Cond.methodLink own index y).before a0 Z = true) (w2 : (Jvm.Cond.declares y).before a0 Z = true) (w5 : (Jvm.Cond.selects C y y).before a0 Z = true) (w6 : (Jvm.Cond.instanceMethod y).before a0 Z = true) (w3 : (Jvm.Cond.initialized y.cls).before a0 Z = true) {bytes' : ByteArray} {maxL : Nat} {ret : Option FieldType} (w4 : (Jvm.Cond.code y bytes' maxL ret).before a0 Z = true) (hy : y.cls ≠ "java/lang/invoke/MethodHandle" ∧ y.cls ≠ "java/lang/invoke/VarHandle") {rm : Room} {Q : Option Value → Heap → List Loc → Prop} (eT : T.heap = h) (W : Nat) (hf : rm.frames + 1 ≤ R.frames) (hl : W + (maxL + 11) + rm.locals ≤ R.locals) (hc : cells + rm.cells ≤ R.cells) (hs : slots + rm.slots ≤ R.slots) {argsL rest : List Value} {st : List Value} (hlen : ∀ sig, parseMethodDescriptor y.desc = some sig → argsL.length = sig.parameters.length) (hst : st = argsL.reverse ++ .ref b :: rest) (hW : (rest.map fun v => v.category).sum ≤ W) (E : Exa Z h b C) (hM : ConW l Z y bytes' maxL ret [] rm (.ref b :: argsL).toArray h Q) (hd : decode bytes pc = .ok (.invokevirtual index, 3)) (hp : pc + 3 = pc') (hS : s.Since vm0 k0) (hk : k0 ≤ h.size) (k : ∀ (v : Option Value) (T' : State) (L : List Loc), Stand p l e R (s.setVm T'.vm) m args below meth c T' (locs ++ L) (cells + rm.cells) (slots + rm.slots) → s.Since T'.vm T'.heap.size → T'.heap.size ≤ T'.heap.size → Z.Warmed39 T'.vm → T'.vm.findClass own = some m.cls → h.size ≤ T'.heap.size → Q v T'.heap L → GoP p e below Φ (T'.setTop (mkF m pc' Ls (v.toList ++ rest)))) : GoP p e below Φ (T.setTop (mkF m pc Ls st)) := by
  obtain ⟨cq, kq, qa, qb, qc⟩ := isOf (s := s.setVm vm0) hZ eT E
  obtain ⟨v, _, ⟨T', L', k', n'⟩, -, X', hS2, hg2, ⟨L, hQ, l1, y1, z1⟩, st'⟩ := X.virtualBackS hx (y := y) (z := y) hown (mvT (s := s.setVm vm0) hZ w1) (mvT (s := s.setVm vm0) hZ w2) (notFace_of_selects (args := #[]) (mvT (s := s.setVm vm0) hZ w5)) (mvT (s := s.setVm vm0) hZ w5) (mvT (s := s.setVm vm0) hZ w6) hy (backOfS (W := W) hM hZ w4 w3 hf hl) qa qc (g := mkF m pc Ls st) rfl hml (Steps.refl _) (argsL := argsL) (rest := rest) hlen hst (by show 2 * 0 + _ ≤ _; omega) (hb hby hd) (fun _ _ => ⟨rfl, eT, hc, hs⟩)
  dsimp only [Pt.U, Pt.locs, Pt.cells, Pt.slots] at X' l1 y1 z1 st' hQ hS2 hg2
  subst l1 y1 z1 hp
  obtain ⟨X'', hS3, hZ3, hown3⟩ := rebS (n1 := T.heap.size) hS (by rw [eT]; exact hk) X' hS2 hg2 hZ hown
  exact own_trans st' (k _ _ _ X'' hS3 (Nat.le_refl _) hZ3 hown3 (by rw [← eT]; exact hg2) hQ)
theorem own_callSW (X : Stand p l e R (s.setVm vm0) m args below meth c T locs cells slots) (hx : p.tables.exec = Jvm.exec) (hby : c.code = bytes) (hZ : Z.Warmed39 vm0) (hml : Ls.size = c.maxLocals) {own : String} {index : Nat} {y : MethodName} (hown : vm0.findClass own = some m.cls) (w1 : (Jvm.Cond.methodLink own index y).before a0 Z = true) (w2 : (Jvm.Cond.static y).before a0 Z = true) (w3 : (Jvm.Cond.initialized y.cls).before a0 Z = true) {bytes' : ByteArray} {maxL : Nat} {ret : Option FieldType} (w4 : (Jvm.Cond.code y bytes' maxL ret).before a0 Z = true) (hy : y.cls ≠ "java/lang/invoke/MethodHandle" ∧ y.cls ≠ "java/lang/invoke/VarHandle") {rm : Room} {Q : Option Value → Heap → List Loc → Prop} (eT : T.heap = h) (W : Nat) (hf : rm.frames + 1 ≤ R.frames) (hl : W + (maxL + 11) + rm.locals ≤ R.locals) (hc : cells + rm.cells ≤ R.cells) (hs : slots + rm.slots ≤ R.slots) {argsL rest : List Value} {st : List Value} (hlen : ∀ sig, parseMethodDescriptor y.desc = some sig → argsL.length = sig.parameters.length) (hst : st = argsL.reverse ++ rest) (hW : (rest.map fun v => v.category).sum ≤ W) (hM : ConW l Z y bytes' maxL ret [] rm argsL.toArray h Q) (hd : decode bytes pc = .ok (.invokestatic index, 3)) (hp : pc + 3 = pc') (hS : s.Since vm0 k0) (hk : k0 ≤ h.size) (k : ∀ (v : Option Value) (T' : State) (L : List Loc), Stand p l e R (s.setVm T'.vm) m args below meth c T' (locs ++ L) (cells + rm.cells) (slots + rm.slots) → s.Since T'.vm T'.heap.size → T'.heap.size ≤ T'.heap.size → Z.Warmed39 T'.vm → T'.vm.findClass own = some m.cls → h.size ≤ T'.heap.size → Q v T'.heap L → GoP p e below Φ (T'.setTop (mkF m pc' Ls (v.toList ++ rest)))) : GoP p e below Φ (T.setTop (mkF m pc Ls st)) := by
  obtain ⟨v, _, ⟨T', L', k', n'⟩, -, X', hS2, hg2, ⟨L, hQ, l1, y1, z1⟩, st'⟩ := callSS X hx (y := y) hown (mvT (s := s.setVm vm0) hZ w1) (mvT (s := s.setVm vm0) hZ w2) (mvT (s := s.setVm vm0) hZ w3) (mvT (s := s.setVm vm0) hZ w4) hy (backOfS (W := W) hM hZ w4 w3 hf hl) (g := mkF m pc Ls st) rfl hml (argsL := argsL) (rest := rest) hlen hst (by show 2 * 0 + _ ≤ _; omega) (hb hby hd) (fun _ _ => ⟨rfl, eT, hc, hs⟩)
  dsimp only [Pt.U, Pt.locs, Pt.cells, Pt.slots] at X' l1 y1 z1 st' hQ hS2 hg2
  subst l1 y1 z1 hp
  obtain ⟨X'', hS3, hZ3, hown3⟩ := rebS (n1 := T.heap.size) hS (by rw [eT]; exact hk) X' hS2 hg2 hZ hown
  exact own_trans st' (k _ _ _ X'' hS3 (Nat.le_refl _) hZ3 hown3 (by rw [← eT]; exact hg2) hQ)
end OwnKitW
end Jvm.Pilot.@@N@@
namespace Jvm.Pilot.@@N@@
open Jvm Jvm.ClassFile Sem Op Lib Jvm.Free Jvm.Stand Jvm.LawKit Jvm.RoadKit Bundle Jvm.Pilot.@@N@@.Jvm.D
theorem own_strs0 : ∀ a ∈ Bundle.stringAtoms, a ∈ tables_1 := by decide +kernel
theorem own_strs {Z : State} {a0 : Array Value} (hw : ∀ d ∈ tables_1, d.before a0 Z = true) : ∀ a ∈ Bundle.stringAtoms, a.before a0 Z = true := fun a q => hw a (own_strs0 a q)
theorem ef_rmN (m : MethodId) (x0 : Addr) (x1 : Addr) : entryFrame m #[(.ref x0), (.ref x1)] 2 = mkF m 0 #[.val (.ref x0), .val (.ref x1)] [] := by first | (simp [entryFrame, mkF, argsToLocals, Value.category]; done) | rfl
theorem pn_java_util_Objects : plainName "java/util/Objects" = true := by first | (simp [plainName, overriddenIn]; done) | decide +kernel
theorem d_jdk_31_method_11_code_0 : decode jdk_31_method_11_code 0 = .ok (.aload_n 0, 1) := by decide +kernel
theorem d_jdk_31_method_11_code_1 : decode jdk_31_method_11_code 1 = .ok (.ifnonnull 12, 3) := by decide +kernel
theorem d_jdk_31_method_11_code_13 : decode jdk_31_method_11_code 13 = .ok (.aload_n 0, 1) := by decide +kernel
theorem d_jdk_31_method_11_code_14 : decode jdk_31_method_11_code 14 = .ok (.areturn, 1) := by decide +kernel
set_option maxRecDepth 65536 in
set_option maxHeartbeats 40000000 in
theorem rmN (l : Launch) (Z : State) (a0 : Array Value) (hw : ∀ d ∈ tables_1, d.before a0 Z = true) (a b : Addr) (h0 : Heap)  : Con l Z (⟨"java/util/Objects", "requireNonNull", "(Ljava/lang/Object;Ljava/lang/String;)Ljava/lang/Object;"⟩ : MethodName) jdk_31_method_11_code 2 (some (.object "java/lang/Object")) [] ({ frames := 0, cells := 0, slots := 0, locals := 0 } : Room) #[(.ref a), (.ref b)] h0 (fun v h L => v = some (.ref a) ∧ L = [] ∧ h = h0) := by
  refine Con.of pn_java_util_Objects ?_
  intro p e s m below meth c T X hx hby hml hown hnm hret eT hZ hsh Φ fin
  replace hown : s.vm.findClass "java/util/Objects" = some m.cls := hown
  replace hml : 2 = c.maxLocals := hml.symm
  refine own_step (fun t k => castTop (ef_rmN m a b) k) ?_
  refine own_aloadN X hx hby d_jdk_31_method_11_code_0 rfl rfl (pc' := 1) rfl ?_
  refine own_ifnonnullY X hx hby d_jdk_31_method_11_code_1 (by decide) (pc' := 13) (by decide) ?_
  refine own_aloadN X hx hby d_jdk_31_method_11_code_13 rfl rfl (pc' := 14) rfl ?_
  exact own_retA X hx hby fin hret rfl rfl rfl d_jdk_31_method_11_code_14 (by decide) (by decide) ⟨rfl, rfl, eT⟩
theorem ef_rmD (m : MethodId) (x0 : Addr) (x1 : Addr) : entryFrame m #[(.ref x0), (.ref x1)] 2 = mkF m 0 #[.val (.ref x0), .val (.ref x1)] [] := by first | (simp [entryFrame, mkF, argsToLocals, Value.category]; done) | rfl
theorem pn_com_example_mailhelm_mailhelm_model_MailProtocol : plainName "com/example/mailhelm/mailhelm/model/MailProtocol" = true := by first | (simp [plainName, overriddenIn]; done) | decide +kernel
theorem d_prog_16_method_5_code_0 : decode prog_16_method_5_code 0 = .ok (.aload_n 1, 1) := by decide +kernel
theorem d_prog_16_method_5_code_1 : decode prog_16_method_5_code 1 = .ok (.ldc 55, 2) := by decide +kernel
theorem d_prog_16_method_5_code_3 : decode prog_16_method_5_code 3 = .ok (.invokestatic 57, 3) := by decide +kernel
theorem pd__Ljava_lang_Object_Ljava_lang_String__Ljava_lang_Object_ : parseMethodDescriptor "(Ljava/lang/Object;Ljava/lang/String;)Ljava/lang/Object;" = some ⟨[(.object "java/lang/Object"), (.object "java/lang/String")], some (.object "java/lang/Object")⟩ := by decide +kernel
theorem d_prog_16_method_5_code_6 : decode prog_16_method_5_code 6 = .ok (.getstatic 63, 3) := by decide +kernel
theorem d_prog_16_method_5_code_9 : decode prog_16_method_5_code 9 = .ok (.if_acmp .ne 10, 3) := by decide +kernel
theorem d_prog_16_method_5_code_12 : decode prog_16_method_5_code 12 = .ok (.aload_n 0, 1) := by decide +kernel
theorem d_prog_16_method_5_code_13 : decode prog_16_method_5_code 13 = .ok (.getfield 32, 3) := by decide +kernel
theorem d_prog_16_method_5_code_16 : decode prog_16_method_5_code 16 = .ok (.goto 7, 3) := by decide +kernel
theorem d_prog_16_method_5_code_23 : decode prog_16_method_5_code 23 = .ok (.ireturn, 1) := by decide +kernel
theorem d_prog_16_method_5_code_19 : decode prog_16_method_5_code 19 = .ok (.aload_n 0, 1) := by decide +kernel
theorem d_prog_16_method_5_code_20 : decode prog_16_method_5_code 20 = .ok (.getfield 36, 3) := by decide +kernel
set_option maxRecDepth 65536 in
set_option maxHeartbeats 40000000 in
theorem rmD (l : Launch) (Z : State) (a0 : Array Value) (hw : ∀ d ∈ tables_1, d.before a0 Z = true) (a b aT : Addr) (t q : Int32) (h0 : Heap) (ST : Sta Z h0 "com/example/mailhelm/mailhelm/model/Security" "TLS" "Lcom/example/mailhelm/mailhelm/model/Security;" (.ref aT)) (FT : Fld Z h0 a "com/example/mailhelm/mailhelm/model/MailProtocol" "tlsPort" "I" (.int t)) (FP : Fld Z h0 a "com/example/mailhelm/mailhelm/model/MailProtocol" "plainPort" "I" (.int q)) : ConW l Z (⟨"com/example/mailhelm/mailhelm/model/MailProtocol", "defaultPort", "(Lcom/example/mailhelm/mailhelm/model/Security;)I"⟩ : MethodName) prog_16_method_5_code 2 (some .int) [] ({ frames := 1, cells := 2, slots := 36, locals := 13 } : Room) #[(.ref a), (.ref b)] h0 (fun v h L => v = some (.int (if b = aT then t else q)) ∧ L = [] ∧ Ext h0 h) := by
  refine ConW.of pn_com_example_mailhelm_mailhelm_model_MailProtocol ?_
  intro p e s m below meth c T vm0 k0 X hx hby hml hown hnm hret eT hZ hsh hS hk Φ fin
  replace hown : vm0.findClass "com/example/mailhelm/mailhelm/model/MailProtocol" = some m.cls := hown
  replace hml : 2 = c.maxLocals := hml.symm
  refine own_step (fun t k => castTop (ef_rmD m a b) k) ?_
  refine own_aloadN X hx hby d_prog_16_method_5_code_0 rfl rfl (pc' := 1) rfl ?_
  refine own_ldcS X hx hby hZ hown (own_w hw 12 rfl) (own_strs hw) eT hS hk d_prog_16_method_5_code_1 32 (by decide) (by decide) (by decide) (by decide) (pc' := 3) rfl ?_
  clear hS hk hZ hown
  intro b1 T1 h1 k1 X1 e1 E1 hS hk hZ hown
  have S2_TLS := ST.ext E1
  have F3_tlsPort := FT.ext E1
  have F4_plainPort := FP.ext E1
  show GoP p e below Φ (T1.setTop (mkF m 3 #[.val (.ref a), .val (.ref b)] [(.ref b1), (.ref b)]))
  refine own_callS X1 hx hby hZ (by exact hml) hown (own_w hw 20 rfl) (own_w hw 21 rfl) (own_w hw 22 rfl) (own_w hw 23 rfl) (by decide) e1 0 (by decide) (by decide) (by decide) (by decide) (argsL := [(.ref b), (.ref b1)]) (rest := []) (lenOf pd__Ljava_lang_Object_Ljava_lang_String__Ljava_lang_Object_ rfl) rfl (rmN l Z a0 hw b b1 h1) (Nat.le_of_eq rfl) d_prog_16_method_5_code_3 (pc' := 6) rfl ?_
  intro v5 T5 L5 X5 hQ5
  obtain ⟨rfl, rfl, e5⟩ := hQ5
  rw [List.append_nil] at X5
  replace e5 : T5.heap = h1 := e5
  show GoP p e below Φ (T5.setTop (mkF m 6 #[.val (.ref a), .val (.ref b)] [(.ref b)]))
  obtain ⟨T6, X6, e6, st6⟩ := getS2 X5 hx hZ hown (host := "") (Or.inl (own_w hw 24 rfl)) Via.refl e5 S2_TLS (g := (mkF m 6 #[.val (.ref a), .val (.ref b)] [(.ref b)])) rfl (hb hby d_prog_16_method_5_code_6)
  refine own_step st6 ?_
  show GoP p e below Φ (T6.setTop (mkF m 9 #[.val (.ref a), .val (.ref b)] [(.ref aT), (.ref b)]))
  by_cases hc9_7 : b = aT
  · refine own_acmp X6 hx hby d_prog_16_method_5_code_9 rfl rfl (same := true) (decide_eq_true (congrArg Value.ref hc9_7)) (by decide) (pc' := 12) (by decide) ?_
    refine own_aloadN X6 hx hby d_prog_16_method_5_code_12 rfl rfl (pc' := 13) rfl ?_
    obtain ⟨T8, X8, e8, st8⟩ := getF X6 hx hZ hown (host := "") (Or.inl (own_w hw 25 rfl)) Via.refl e6 F3_tlsPort (g := (mkF m 13 #[.val (.ref a), .val (.ref b)] [(.ref a)])) rfl rfl (hb hby d_prog_16_method_5_code_13)
    refine own_step st8 ?_
    show GoP p e below Φ (T8.setTop (mkF m 16 #[.val (.ref a), .val (.ref b)] [(.int t)]))
    refine own_goto X8 hx hby d_prog_16_method_5_code_16 (by decide) (pc' := 23) (by decide) ?_
    exact own_retI X8 hx hby (fin _ _ hS) hret d_prog_16_method_5_code_23 (by decide) (by decide) ⟨⟨by rw [if_pos hc9_7], rfl, (by rw [e8]; exact E1)⟩, (by rw [e8]; exact hk)⟩
  · refine own_acmp X6 hx hby d_prog_16_method_5_code_9 rfl rfl (same := false) (decide_eq_false (fun q => hc9_7 (Value.ref.inj q))) (by decide) (pc' := 19) (by decide) ?_
    refine own_aloadN X6 hx hby d_prog_16_method_5_code_19 rfl rfl (pc' := 20) rfl ?_
    obtain ⟨T9, X9, e9, st9⟩ := getF X6 hx hZ hown (host := "") (Or.inl (own_w hw 31 rfl)) Via.refl e6 F4_plainPort (g := (mkF m 20 #[.val (.ref a), .val (.ref b)] [(.ref a)])) rfl rfl (hb hby d_prog_16_method_5_code_20)
    refine own_step st9 ?_
    show GoP p e below Φ (T9.setTop (mkF m 23 #[.val (.ref a), .val (.ref b)] [(.int q)]))
    exact own_retI X9 hx hby (fin _ _ hS) hret d_prog_16_method_5_code_23 (by decide) (by decide) ⟨⟨by rw [if_neg hc9_7], rfl, (by rw [e9]; exact E1)⟩, (by rw [e9]; exact hk)⟩
theorem ef_rm0 (m : MethodId) (x0 : Int32) (x1 : Int32) : entryFrame m #[(.int x0), (.int x1)] maxLocals = mkF m 0 #[.val (.int x0), .val (.int x1), .unset, .unset, .unset, .unset, .unset] [] := by first | (simp [entryFrame, mkF, argsToLocals, Value.category, maxLocals]; done) | rfl
theorem pn_com_example_mailhelm_mailhelm_model_MailProtocolDefaultPortPinLaw : plainName "com/example/mailhelm/mailhelm/model/MailProtocolDefaultPortPinLaw" = true := by first | (simp [plainName, overriddenIn]; done) | decide +kernel
theorem pd__Lcom_example_mailhelm_mailhelm_model_Security__I : parseMethodDescriptor "(Lcom/example/mailhelm/mailhelm/model/Security;)I" = some ⟨[(.object "com/example/mailhelm/mailhelm/model/Security")], some .int⟩ := by decide +kernel
set_option maxRecDepth 65536 in
set_option maxHeartbeats 40000000 in
theorem rm0 (l : Launch) (Z : State) (a0 : Array Value) (hw : ∀ d ∈ tables_1, d.before a0 Z = true) (p1 p2 : Int32) (c0 c1 c2 d0 d1 d2 : Addr) (h0 : Heap) (Sc0 : Sta Z h0 "com/example/mailhelm/mailhelm/model/MailProtocol" "IMAP" "Lcom/example/mailhelm/mailhelm/model/MailProtocol;" (.ref c0)) (Ec0 : Exa Z h0 c0 "com/example/mailhelm/mailhelm/model/MailProtocol") (FTc0 : Fld Z h0 c0 "com/example/mailhelm/mailhelm/model/MailProtocol" "tlsPort" "I" (.int (993 : Int32))) (FPc0 : Fld Z h0 c0 "com/example/mailhelm/mailhelm/model/MailProtocol" "plainPort" "I" (.int (143 : Int32))) (Sc1 : Sta Z h0 "com/example/mailhelm/mailhelm/model/MailProtocol" "POP3" "Lcom/example/mailhelm/mailhelm/model/MailProtocol;" (.ref c1)) (Ec1 : Exa Z h0 c1 "com/example/mailhelm/mailhelm/model/MailProtocol") (FTc1 : Fld Z h0 c1 "com/example/mailhelm/mailhelm/model/MailProtocol" "tlsPort" "I" (.int (995 : Int32))) (FPc1 : Fld Z h0 c1 "com/example/mailhelm/mailhelm/model/MailProtocol" "plainPort" "I" (.int (110 : Int32))) (Sc2 : Sta Z h0 "com/example/mailhelm/mailhelm/model/MailProtocol" "SMTP" "Lcom/example/mailhelm/mailhelm/model/MailProtocol;" (.ref c2)) (Ec2 : Exa Z h0 c2 "com/example/mailhelm/mailhelm/model/MailProtocol") (FTc2 : Fld Z h0 c2 "com/example/mailhelm/mailhelm/model/MailProtocol" "tlsPort" "I" (.int (465 : Int32))) (FPc2 : Fld Z h0 c2 "com/example/mailhelm/mailhelm/model/MailProtocol" "plainPort" "I" (.int (587 : Int32))) (Sd0 : Sta Z h0 "com/example/mailhelm/mailhelm/model/Security" "TLS" "Lcom/example/mailhelm/mailhelm/model/Security;" (.ref d0)) (Sd1 : Sta Z h0 "com/example/mailhelm/mailhelm/model/Security" "STARTTLS" "Lcom/example/mailhelm/mailhelm/model/Security;" (.ref d1)) (Sd2 : Sta Z h0 "com/example/mailhelm/mailhelm/model/Security" "PLAIN" "Lcom/example/mailhelm/mailhelm/model/Security;" (.ref d2)) (ne1 : d1 ≠ d0) (ne2 : d2 ≠ d0) : ConW l Z x code maxLocals ret tables_1 room_1 #[(.int p1), (.int p2)] h0 (fun v h L => v = some (.int 1) ∧ Fr h0.size L) := by
  refine ConW.of pn_com_example_mailhelm_mailhelm_model_MailProtocolDefaultPortPinLaw ?_
  intro p e s m below meth c T vm0 k0 X hx hby hml hown hnm hret eT hZ hsh hS hk Φ fin
  replace hown : vm0.findClass "com/example/mailhelm/mailhelm/model/MailProtocolDefaultPortPinLaw" = some m.cls := hown
  replace hml : 7 = c.maxLocals := hml.symm
  refine own_step (fun t k => castTop (ef_rm0 m p1 p2) k) ?_
  replace hret : meth.sig.returnType = (some .boolean) := hret
  refine own_iloadN X hx hby at_0 rfl (pc' := 1) rfl ?_
  refine own_ldcI X hx hby hZ hown (own_w hw 0 rfl) at_1 (pc' := 3) rfl ?_
  refine own_iand X hx hby at_3 (pc' := 4) rfl ?_
  refine own_iconst X hx hby at_4 (v := (3 : Int32)) rfl (pc' := 5) rfl ?_
  refine own_irem X hx hby at_5 (by decide) (pc' := 6) rfl ?_
  refine own_istoreN X hx hby at_6  (Ls' := #[.val (.int p1), .val (.int p2), .val (.int ((p1 &&& (2147483647 : Int32)) % (3 : Int32))), .unset, .unset, .unset, .unset]) rfl (pc' := 7) rfl ?_
  refine own_iloadN X hx hby at_7 rfl (pc' := 8) rfl ?_
  refine own_ldcI X hx hby hZ hown (own_w hw 0 rfl) at_8 (pc' := 10) rfl ?_
  refine own_iand X hx hby at_10 (pc' := 11) rfl ?_
  refine own_iconst X hx hby at_11 (v := (3 : Int32)) rfl (pc' := 12) rfl ?_
  refine own_irem X hx hby at_12 (by decide) (pc' := 13) rfl ?_
  refine own_istoreN X hx hby at_13  (Ls' := #[.val (.int p1), .val (.int p2), .val (.int ((p1 &&& (2147483647 : Int32)) % (3 : Int32))), .val (.int ((p2 &&& (2147483647 : Int32)) % (3 : Int32))), .unset, .unset, .unset]) rfl (pc' := 14) rfl ?_
  generalize ((p1 &&& (2147483647 : Int32)) % (3 : Int32)) = z
  generalize ((p2 &&& (2147483647 : Int32)) % (3 : Int32)) = w
  refine own_iloadN X hx hby at_14 rfl (pc' := 15) rfl ?_
  by_cases hc15_1 : z = (0 : Int32)
  · refine own_ifN X hx hby at_15 ((if0 _ _).trans (teq hc15_1).2) (pc' := 18) rfl ?_
    obtain ⟨T2, X2, e2, st2⟩ := getS2 X hx hZ hown (host := "") (Or.inl (own_w hw 1 rfl)) Via.refl eT Sc0 (g := (mkF m 18 #[.val (.int p1), .val (.int p2), .val (.int z), .val (.int w), .unset, .unset, .unset] [])) rfl (hb hby at_18)
    refine own_step st2 ?_
    show GoP p e below Φ (T2.setTop (mkF m 21 #[.val (.int p1), .val (.int p2), .val (.int z), .val (.int w), .unset, .unset, .unset] [(.ref c0)]))
    refine own_goto X2 hx hby at_21 (by decide) (pc' := 38) (by decide) ?_
    refine own_astore X2 hx hby at_38 rfl (Ls' := #[.val (.int p1), .val (.int p2), .val (.int z), .val (.int w), .val (.ref c0), .unset, .unset]) rfl (pc' := 40) rfl ?_
    refine own_iloadN X2 hx hby at_40 rfl (pc' := 41) rfl ?_
    by_cases hc41_3 : w = (0 : Int32)
    · refine own_ifN X2 hx hby at_41 ((if0 _ _).trans (teq hc41_3).2) (pc' := 44) rfl ?_
      obtain ⟨T4, X4, e4, st4⟩ := getS2 X2 hx hZ hown (host := "") (Or.inl (own_w hw 4 rfl)) Via.refl e2 Sd0 (g := (mkF m 44 #[.val (.int p1), .val (.int p2), .val (.int z), .val (.int w), .val (.ref c0), .unset, .unset] [])) rfl (hb hby at_44)
      refine own_step st4 ?_
      show GoP p e below Φ (T4.setTop (mkF m 47 #[.val (.int p1), .val (.int p2), .val (.int z), .val (.int w), .val (.ref c0), .unset, .unset] [(.ref d0)]))
      refine own_goto X4 hx hby at_47 (by decide) (pc' := 64) (by decide) ?_
      refine own_astore X4 hx hby at_64 rfl (Ls' := #[.val (.int p1), .val (.int p2), .val (.int z), .val (.int w), .val (.ref c0), .val (.ref d0), .unset]) rfl (pc' := 66) rfl ?_
      refine own_iloadN X4 hx hby at_66 rfl (pc' := 67) rfl ?_
      refine own_ifN X4 hx hby at_67 ((if0 _ _).trans (teq hc41_3).2) (pc' := 70) rfl ?_
      refine own_iloadN X4 hx hby at_70 rfl (pc' := 71) rfl ?_
      refine own_ifN X4 hx hby at_71 ((if0 _ _).trans (teq hc15_1).2) (pc' := 74) rfl ?_
      refine own_sipush X4 hx hby at_74 (v := (993 : Int32)) rfl (pc' := 77) rfl ?_
      refine own_goto X4 hx hby at_77 (by decide) (pc' := 94) (by decide) ?_
      refine own_istore X4 hx hby at_94  (Ls' := #[.val (.int p1), .val (.int p2), .val (.int z), .val (.int w), .val (.ref c0), .val (.ref d0), .val (.int (993 : Int32))]) rfl (pc' := 96) rfl ?_
      refine own_goto X4 hx hby at_96 (by decide) (pc' := 124) (by decide) ?_
      refine own_aload X4 hx hby at_124 rfl rfl (pc' := 126) rfl ?_
      refine own_aload X4 hx hby at_126 rfl rfl (pc' := 128) rfl ?_
      refine own_callVW X4 hx hby hZ (by exact hml) hown (own_w hw 7 rfl) (own_w hw 8 rfl) (own_w hw 10 rfl) (own_w hw 9 rfl) (own_w hw 2 rfl) (own_w hw 11 rfl) (by decide) e4 0 (by decide) (by decide) (by decide) (by decide) (argsL := [(.ref d0)]) (rest := []) (lenOf pd__Lcom_example_mailhelm_mailhelm_model_Security__I rfl) rfl (Nat.le_of_eq rfl) Ec0 (rmD l Z a0 hw c0 d0 d0 (993 : Int32) (143 : Int32) h0 Sd0 FTc0 FPc0) at_128 (pc' := 131) rfl hS hk ?_
      clear hS hk hZ hown
      intro v5 T5 L5 X5 hS hk hZ hown hge5 hQ5
      obtain ⟨rfl, rfl, E5⟩ := hQ5
      rw [List.append_nil] at X5
      show GoP p e below Φ (T5.setTop (mkF m 131 #[.val (.int p1), .val (.int p2), .val (.int z), .val (.int w), .val (.ref c0), .val (.ref d0), .val (.int (993 : Int32))] [(.int (if d0 = d0 then (993 : Int32) else (143 : Int32)))]))
      rw [if_pos rfl]
      refine own_iload X5 hx hby at_131 rfl (pc' := 133) rfl ?_
      refine own_icmpN X5 hx hby at_133 (teq (by decide)).2 (pc' := 136) rfl ?_
      refine own_iconst X5 hx hby at_136 (v := (1 : Int32)) rfl (pc' := 137) rfl ?_
      refine own_goto X5 hx hby at_137 (by decide) (pc' := 141) (by decide) ?_
      exact own_retN X5 hx hby (fin _ _ hS) hret (by simp) rfl at_141 (by decide) (by decide) ⟨⟨rfl, Fr.nil _⟩, hk⟩
    · refine own_ifY X2 hx hby at_41 ((if0 _ _).trans (feq hc41_3).2) (by decide) (pc' := 50) (by decide) ?_
      refine own_iloadN X2 hx hby at_50 rfl (pc' := 51) rfl ?_
      refine own_iconst X2 hx hby at_51 (v := (1 : Int32)) rfl (pc' := 52) rfl ?_
      by_cases hc52_6 : w = (1 : Int32)
      · refine own_icmpN X2 hx hby at_52 (teq hc52_6).2 (pc' := 55) rfl ?_
        obtain ⟨T7, X7, e7, st7⟩ := getS2 X2 hx hZ hown (host := "") (Or.inl (own_w hw 29 rfl)) Via.refl e2 Sd1 (g := (mkF m 55 #[.val (.int p1), .val (.int p2), .val (.int z), .val (.int w), .val (.ref c0), .unset, .unset] [])) rfl (hb hby at_55)
        refine own_step st7 ?_
        show GoP p e below Φ (T7.setTop (mkF m 58 #[.val (.int p1), .val (.int p2), .val (.int z), .val (.int w), .val (.ref c0), .unset, .unset] [(.ref d1)]))
        refine own_goto X7 hx hby at_58 (by decide) (pc' := 64) (by decide) ?_
        refine own_astore X7 hx hby at_64 rfl (Ls' := #[.val (.int p1), .val (.int p2), .val (.int z), .val (.int w), .val (.ref c0), .val (.ref d1), .unset]) rfl (pc' := 66) rfl ?_
        refine own_iloadN X7 hx hby at_66 rfl (pc' := 67) rfl ?_
        refine own_ifY X7 hx hby at_67 ((if0 _ _).trans (feq hc41_3).2) (by decide) (pc' := 99) (by decide) ?_
        refine own_iloadN X7 hx hby at_99 rfl (pc' := 100) rfl ?_
        refine own_ifN X7 hx hby at_100 ((if0 _ _).trans (teq hc15_1).2) (pc' := 103) rfl ?_
        refine own_sipush X7 hx hby at_103 (v := (143 : Int32)) rfl (pc' := 106) rfl ?_
        refine own_goto X7 hx hby at_106 (by decide) (pc' := 122) (by decide) ?_
        refine own_istore X7 hx hby at_122  (Ls' := #[.val (.int p1), .val (.int p2), .val (.int z), .val (.int w), .val (.ref c0), .val (.ref d1), .val (.int (143 : Int32))]) rfl (pc' := 124) rfl ?_
        refine own_aload X7 hx hby at_124 rfl rfl (pc' := 126) rfl ?_
        refine own_aload X7 hx hby at_126 rfl rfl (pc' := 128) rfl ?_
        refine own_callVW X7 hx hby hZ (by exact hml) hown (own_w hw 7 rfl) (own_w hw 8 rfl) (own_w hw 10 rfl) (own_w hw 9 rfl) (own_w hw 2 rfl) (own_w hw 11 rfl) (by decide) e7 0 (by decide) (by decide) (by decide) (by decide) (argsL := [(.ref d1)]) (rest := []) (lenOf pd__Lcom_example_mailhelm_mailhelm_model_Security__I rfl) rfl (Nat.le_of_eq rfl) Ec0 (rmD l Z a0 hw c0 d1 d0 (993 : Int32) (143 : Int32) h0 Sd0 FTc0 FPc0) at_128 (pc' := 131) rfl hS hk ?_
        clear hS hk hZ hown
        intro v8 T8 L8 X8 hS hk hZ hown hge8 hQ8
        obtain ⟨rfl, rfl, E8⟩ := hQ8
        rw [List.append_nil] at X8
        show GoP p e below Φ (T8.setTop (mkF m 131 #[.val (.int p1), .val (.int p2), .val (.int z), .val (.int w), .val (.ref c0), .val (.ref d1), .val (.int (143 : Int32))] [(.int (if d1 = d0 then (993 : Int32) else (143 : Int32)))]))
        rw [if_neg ne1]
        refine own_iload X8 hx hby at_131 rfl (pc' := 133) rfl ?_
        refine own_icmpN X8 hx hby at_133 (teq (by decide)).2 (pc' := 136) rfl ?_
        refine own_iconst X8 hx hby at_136 (v := (1 : Int32)) rfl (pc' := 137) rfl ?_
        refine own_goto X8 hx hby at_137 (by decide) (pc' := 141) (by decide) ?_
        exact own_retN X8 hx hby (fin _ _ hS) hret (by simp) rfl at_141 (by decide) (by decide) ⟨⟨rfl, Fr.nil _⟩, hk⟩
      · refine own_icmpY X2 hx hby at_52 (feq hc52_6).2 (by decide) (pc' := 61) (by decide) ?_
        obtain ⟨T9, X9, e9, st9⟩ := getS2 X2 hx hZ hown (host := "") (Or.inl (own_w hw 33 rfl)) Via.refl e2 Sd2 (g := (mkF m 61 #[.val (.int p1), .val (.int p2), .val (.int z), .val (.int w), .val (.ref c0), .unset, .unset] [])) rfl (hb hby at_61)
        refine own_step st9 ?_
        show GoP p e below Φ (T9.setTop (mkF m 64 #[.val (.int p1), .val (.int p2), .val (.int z), .val (.int w), .val (.ref c0), .unset, .unset] [(.ref d2)]))
        refine own_astore X9 hx hby at_64 rfl (Ls' := #[.val (.int p1), .val (.int p2), .val (.int z), .val (.int w), .val (.ref c0), .val (.ref d2), .unset]) rfl (pc' := 66) rfl ?_
        refine own_iloadN X9 hx hby at_66 rfl (pc' := 67) rfl ?_
        refine own_ifY X9 hx hby at_67 ((if0 _ _).trans (feq hc41_3).2) (by decide) (pc' := 99) (by decide) ?_
        refine own_iloadN X9 hx hby at_99 rfl (pc' := 100) rfl ?_
        refine own_ifN X9 hx hby at_100 ((if0 _ _).trans (teq hc15_1).2) (pc' := 103) rfl ?_
        refine own_sipush X9 hx hby at_103 (v := (143 : Int32)) rfl (pc' := 106) rfl ?_
        refine own_goto X9 hx hby at_106 (by decide) (pc' := 122) (by decide) ?_
        refine own_istore X9 hx hby at_122  (Ls' := #[.val (.int p1), .val (.int p2), .val (.int z), .val (.int w), .val (.ref c0), .val (.ref d2), .val (.int (143 : Int32))]) rfl (pc' := 124) rfl ?_
        refine own_aload X9 hx hby at_124 rfl rfl (pc' := 126) rfl ?_
        refine own_aload X9 hx hby at_126 rfl rfl (pc' := 128) rfl ?_
        refine own_callVW X9 hx hby hZ (by exact hml) hown (own_w hw 7 rfl) (own_w hw 8 rfl) (own_w hw 10 rfl) (own_w hw 9 rfl) (own_w hw 2 rfl) (own_w hw 11 rfl) (by decide) e9 0 (by decide) (by decide) (by decide) (by decide) (argsL := [(.ref d2)]) (rest := []) (lenOf pd__Lcom_example_mailhelm_mailhelm_model_Security__I rfl) rfl (Nat.le_of_eq rfl) Ec0 (rmD l Z a0 hw c0 d2 d0 (993 : Int32) (143 : Int32) h0 Sd0 FTc0 FPc0) at_128 (pc' := 131) rfl hS hk ?_
        clear hS hk hZ hown
        intro v10 T10 L10 X10 hS hk hZ hown hge10 hQ10
        obtain ⟨rfl, rfl, E10⟩ := hQ10
        rw [List.append_nil] at X10
        show GoP p e below Φ (T10.setTop (mkF m 131 #[.val (.int p1), .val (.int p2), .val (.int z), .val (.int w), .val (.ref c0), .val (.ref d2), .val (.int (143 : Int32))] [(.int (if d2 = d0 then (993 : Int32) else (143 : Int32)))]))
        rw [if_neg ne2]
        refine own_iload X10 hx hby at_131 rfl (pc' := 133) rfl ?_
        refine own_icmpN X10 hx hby at_133 (teq (by decide)).2 (pc' := 136) rfl ?_
        refine own_iconst X10 hx hby at_136 (v := (1 : Int32)) rfl (pc' := 137) rfl ?_
        refine own_goto X10 hx hby at_137 (by decide) (pc' := 141) (by decide) ?_
        exact own_retN X10 hx hby (fin _ _ hS) hret (by simp) rfl at_141 (by decide) (by decide) ⟨⟨rfl, Fr.nil _⟩, hk⟩
  · refine own_ifY X hx hby at_15 ((if0 _ _).trans (feq hc15_1).2) (by decide) (pc' := 24) (by decide) ?_
    refine own_iloadN X hx hby at_24 rfl (pc' := 25) rfl ?_
    refine own_iconst X hx hby at_25 (v := (1 : Int32)) rfl (pc' := 26) rfl ?_
    by_cases hc26_11 : z = (1 : Int32)
    · refine own_icmpN X hx hby at_26 (teq hc26_11).2 (pc' := 29) rfl ?_
      obtain ⟨T12, X12, e12, st12⟩ := getS2 X hx hZ hown (host := "") (Or.inl (own_w hw 35 rfl)) Via.refl eT Sc1 (g := (mkF m 29 #[.val (.int p1), .val (.int p2), .val (.int z), .val (.int w), .unset, .unset, .unset] [])) rfl (hb hby at_29)
      refine own_step st12 ?_
      show GoP p e below Φ (T12.setTop (mkF m 32 #[.val (.int p1), .val (.int p2), .val (.int z), .val (.int w), .unset, .unset, .unset] [(.ref c1)]))
      refine own_goto X12 hx hby at_32 (by decide) (pc' := 38) (by decide) ?_
      refine own_astore X12 hx hby at_38 rfl (Ls' := #[.val (.int p1), .val (.int p2), .val (.int z), .val (.int w), .val (.ref c1), .unset, .unset]) rfl (pc' := 40) rfl ?_
      refine own_iloadN X12 hx hby at_40 rfl (pc' := 41) rfl ?_
      by_cases hc41_13 : w = (0 : Int32)
      · refine own_ifN X12 hx hby at_41 ((if0 _ _).trans (teq hc41_13).2) (pc' := 44) rfl ?_
        obtain ⟨T14, X14, e14, st14⟩ := getS2 X12 hx hZ hown (host := "") (Or.inl (own_w hw 4 rfl)) Via.refl e12 Sd0 (g := (mkF m 44 #[.val (.int p1), .val (.int p2), .val (.int z), .val (.int w), .val (.ref c1), .unset, .unset] [])) rfl (hb hby at_44)
        refine own_step st14 ?_
        show GoP p e below Φ (T14.setTop (mkF m 47 #[.val (.int p1), .val (.int p2), .val (.int z), .val (.int w), .val (.ref c1), .unset, .unset] [(.ref d0)]))
        refine own_goto X14 hx hby at_47 (by decide) (pc' := 64) (by decide) ?_
        refine own_astore X14 hx hby at_64 rfl (Ls' := #[.val (.int p1), .val (.int p2), .val (.int z), .val (.int w), .val (.ref c1), .val (.ref d0), .unset]) rfl (pc' := 66) rfl ?_
        refine own_iloadN X14 hx hby at_66 rfl (pc' := 67) rfl ?_
        refine own_ifN X14 hx hby at_67 ((if0 _ _).trans (teq hc41_13).2) (pc' := 70) rfl ?_
        refine own_iloadN X14 hx hby at_70 rfl (pc' := 71) rfl ?_
        refine own_ifY X14 hx hby at_71 ((if0 _ _).trans (feq hc15_1).2) (by decide) (pc' := 80) (by decide) ?_
        refine own_iloadN X14 hx hby at_80 rfl (pc' := 81) rfl ?_
        refine own_iconst X14 hx hby at_81 (v := (1 : Int32)) rfl (pc' := 82) rfl ?_
        refine own_icmpN X14 hx hby at_82 (teq hc26_11).2 (pc' := 85) rfl ?_
        refine own_sipush X14 hx hby at_85 (v := (995 : Int32)) rfl (pc' := 88) rfl ?_
        refine own_goto X14 hx hby at_88 (by decide) (pc' := 94) (by decide) ?_
        refine own_istore X14 hx hby at_94  (Ls' := #[.val (.int p1), .val (.int p2), .val (.int z), .val (.int w), .val (.ref c1), .val (.ref d0), .val (.int (995 : Int32))]) rfl (pc' := 96) rfl ?_
        refine own_goto X14 hx hby at_96 (by decide) (pc' := 124) (by decide) ?_
        refine own_aload X14 hx hby at_124 rfl rfl (pc' := 126) rfl ?_
        refine own_aload X14 hx hby at_126 rfl rfl (pc' := 128) rfl ?_
        refine own_callVW X14 hx hby hZ (by exact hml) hown (own_w hw 7 rfl) (own_w hw 8 rfl) (own_w hw 10 rfl) (own_w hw 9 rfl) (own_w hw 2 rfl) (own_w hw 11 rfl) (by decide) e14 0 (by decide) (by decide) (by decide) (by decide) (argsL := [(.ref d0)]) (rest := []) (lenOf pd__Lcom_example_mailhelm_mailhelm_model_Security__I rfl) rfl (Nat.le_of_eq rfl) Ec1 (rmD l Z a0 hw c1 d0 d0 (995 : Int32) (110 : Int32) h0 Sd0 FTc1 FPc1) at_128 (pc' := 131) rfl hS hk ?_
        clear hS hk hZ hown
        intro v15 T15 L15 X15 hS hk hZ hown hge15 hQ15
        obtain ⟨rfl, rfl, E15⟩ := hQ15
        rw [List.append_nil] at X15
        show GoP p e below Φ (T15.setTop (mkF m 131 #[.val (.int p1), .val (.int p2), .val (.int z), .val (.int w), .val (.ref c1), .val (.ref d0), .val (.int (995 : Int32))] [(.int (if d0 = d0 then (995 : Int32) else (110 : Int32)))]))
        rw [if_pos rfl]
        refine own_iload X15 hx hby at_131 rfl (pc' := 133) rfl ?_
        refine own_icmpN X15 hx hby at_133 (teq (by decide)).2 (pc' := 136) rfl ?_
        refine own_iconst X15 hx hby at_136 (v := (1 : Int32)) rfl (pc' := 137) rfl ?_
        refine own_goto X15 hx hby at_137 (by decide) (pc' := 141) (by decide) ?_
        exact own_retN X15 hx hby (fin _ _ hS) hret (by simp) rfl at_141 (by decide) (by decide) ⟨⟨rfl, Fr.nil _⟩, hk⟩
      · refine own_ifY X12 hx hby at_41 ((if0 _ _).trans (feq hc41_13).2) (by decide) (pc' := 50) (by decide) ?_
        refine own_iloadN X12 hx hby at_50 rfl (pc' := 51) rfl ?_
        refine own_iconst X12 hx hby at_51 (v := (1 : Int32)) rfl (pc' := 52) rfl ?_
        by_cases hc52_16 : w = (1 : Int32)
        · refine own_icmpN X12 hx hby at_52 (teq hc52_16).2 (pc' := 55) rfl ?_
          obtain ⟨T17, X17, e17, st17⟩ := getS2 X12 hx hZ hown (host := "") (Or.inl (own_w hw 29 rfl)) Via.refl e12 Sd1 (g := (mkF m 55 #[.val (.int p1), .val (.int p2), .val (.int z), .val (.int w), .val (.ref c1), .unset, .unset] [])) rfl (hb hby at_55)
          refine own_step st17 ?_
          show GoP p e below Φ (T17.setTop (mkF m 58 #[.val (.int p1), .val (.int p2), .val (.int z), .val (.int w), .val (.ref c1), .unset, .unset] [(.ref d1)]))
          refine own_goto X17 hx hby at_58 (by decide) (pc' := 64) (by decide) ?_
          refine own_astore X17 hx hby at_64 rfl (Ls' := #[.val (.int p1), .val (.int p2), .val (.int z), .val (.int w), .val (.ref c1), .val (.ref d1), .unset]) rfl (pc' := 66) rfl ?_
          refine own_iloadN X17 hx hby at_66 rfl (pc' := 67) rfl ?_
          refine own_ifY X17 hx hby at_67 ((if0 _ _).trans (feq hc41_13).2) (by decide) (pc' := 99) (by decide) ?_
          refine own_iloadN X17 hx hby at_99 rfl (pc' := 100) rfl ?_
          refine own_ifY X17 hx hby at_100 ((if0 _ _).trans (feq hc15_1).2) (by decide) (pc' := 109) (by decide) ?_
          refine own_iloadN X17 hx hby at_109 rfl (pc' := 110) rfl ?_
          refine own_iconst X17 hx hby at_110 (v := (1 : Int32)) rfl (pc' := 111) rfl ?_
          refine own_icmpN X17 hx hby at_111 (teq hc26_11).2 (pc' := 114) rfl ?_
          refine own_bipush X17 hx hby at_114 (v := (110 : Int32)) rfl (pc' := 116) rfl ?_
          refine own_goto X17 hx hby at_116 (by decide) (pc' := 122) (by decide) ?_
          refine own_istore X17 hx hby at_122  (Ls' := #[.val (.int p1), .val (.int p2), .val (.int z), .val (.int w), .val (.ref c1), .val (.ref d1), .val (.int (110 : Int32))]) rfl (pc' := 124) rfl ?_
          refine own_aload X17 hx hby at_124 rfl rfl (pc' := 126) rfl ?_
          refine own_aload X17 hx hby at_126 rfl rfl (pc' := 128) rfl ?_
          refine own_callVW X17 hx hby hZ (by exact hml) hown (own_w hw 7 rfl) (own_w hw 8 rfl) (own_w hw 10 rfl) (own_w hw 9 rfl) (own_w hw 2 rfl) (own_w hw 11 rfl) (by decide) e17 0 (by decide) (by decide) (by decide) (by decide) (argsL := [(.ref d1)]) (rest := []) (lenOf pd__Lcom_example_mailhelm_mailhelm_model_Security__I rfl) rfl (Nat.le_of_eq rfl) Ec1 (rmD l Z a0 hw c1 d1 d0 (995 : Int32) (110 : Int32) h0 Sd0 FTc1 FPc1) at_128 (pc' := 131) rfl hS hk ?_
          clear hS hk hZ hown
          intro v18 T18 L18 X18 hS hk hZ hown hge18 hQ18
          obtain ⟨rfl, rfl, E18⟩ := hQ18
          rw [List.append_nil] at X18
          show GoP p e below Φ (T18.setTop (mkF m 131 #[.val (.int p1), .val (.int p2), .val (.int z), .val (.int w), .val (.ref c1), .val (.ref d1), .val (.int (110 : Int32))] [(.int (if d1 = d0 then (995 : Int32) else (110 : Int32)))]))
          rw [if_neg ne1]
          refine own_iload X18 hx hby at_131 rfl (pc' := 133) rfl ?_
          refine own_icmpN X18 hx hby at_133 (teq (by decide)).2 (pc' := 136) rfl ?_
          refine own_iconst X18 hx hby at_136 (v := (1 : Int32)) rfl (pc' := 137) rfl ?_
          refine own_goto X18 hx hby at_137 (by decide) (pc' := 141) (by decide) ?_
          exact own_retN X18 hx hby (fin _ _ hS) hret (by simp) rfl at_141 (by decide) (by decide) ⟨⟨rfl, Fr.nil _⟩, hk⟩
        · refine own_icmpY X12 hx hby at_52 (feq hc52_16).2 (by decide) (pc' := 61) (by decide) ?_
          obtain ⟨T19, X19, e19, st19⟩ := getS2 X12 hx hZ hown (host := "") (Or.inl (own_w hw 33 rfl)) Via.refl e12 Sd2 (g := (mkF m 61 #[.val (.int p1), .val (.int p2), .val (.int z), .val (.int w), .val (.ref c1), .unset, .unset] [])) rfl (hb hby at_61)
          refine own_step st19 ?_
          show GoP p e below Φ (T19.setTop (mkF m 64 #[.val (.int p1), .val (.int p2), .val (.int z), .val (.int w), .val (.ref c1), .unset, .unset] [(.ref d2)]))
          refine own_astore X19 hx hby at_64 rfl (Ls' := #[.val (.int p1), .val (.int p2), .val (.int z), .val (.int w), .val (.ref c1), .val (.ref d2), .unset]) rfl (pc' := 66) rfl ?_
          refine own_iloadN X19 hx hby at_66 rfl (pc' := 67) rfl ?_
          refine own_ifY X19 hx hby at_67 ((if0 _ _).trans (feq hc41_13).2) (by decide) (pc' := 99) (by decide) ?_
          refine own_iloadN X19 hx hby at_99 rfl (pc' := 100) rfl ?_
          refine own_ifY X19 hx hby at_100 ((if0 _ _).trans (feq hc15_1).2) (by decide) (pc' := 109) (by decide) ?_
          refine own_iloadN X19 hx hby at_109 rfl (pc' := 110) rfl ?_
          refine own_iconst X19 hx hby at_110 (v := (1 : Int32)) rfl (pc' := 111) rfl ?_
          refine own_icmpN X19 hx hby at_111 (teq hc26_11).2 (pc' := 114) rfl ?_
          refine own_bipush X19 hx hby at_114 (v := (110 : Int32)) rfl (pc' := 116) rfl ?_
          refine own_goto X19 hx hby at_116 (by decide) (pc' := 122) (by decide) ?_
          refine own_istore X19 hx hby at_122  (Ls' := #[.val (.int p1), .val (.int p2), .val (.int z), .val (.int w), .val (.ref c1), .val (.ref d2), .val (.int (110 : Int32))]) rfl (pc' := 124) rfl ?_
          refine own_aload X19 hx hby at_124 rfl rfl (pc' := 126) rfl ?_
          refine own_aload X19 hx hby at_126 rfl rfl (pc' := 128) rfl ?_
          refine own_callVW X19 hx hby hZ (by exact hml) hown (own_w hw 7 rfl) (own_w hw 8 rfl) (own_w hw 10 rfl) (own_w hw 9 rfl) (own_w hw 2 rfl) (own_w hw 11 rfl) (by decide) e19 0 (by decide) (by decide) (by decide) (by decide) (argsL := [(.ref d2)]) (rest := []) (lenOf pd__Lcom_example_mailhelm_mailhelm_model_Security__I rfl) rfl (Nat.le_of_eq rfl) Ec1 (rmD l Z a0 hw c1 d2 d0 (995 : Int32) (110 : Int32) h0 Sd0 FTc1 FPc1) at_128 (pc' := 131) rfl hS hk ?_
          clear hS hk hZ hown
          intro v20 T20 L20 X20 hS hk hZ hown hge20 hQ20
          obtain ⟨rfl, rfl, E20⟩ := hQ20
          rw [List.append_nil] at X20
          show GoP p e below Φ (T20.setTop (mkF m 131 #[.val (.int p1), .val (.int p2), .val (.int z), .val (.int w), .val (.ref c1), .val (.ref d2), .val (.int (110 : Int32))] [(.int (if d2 = d0 then (995 : Int32) else (110 : Int32)))]))
          rw [if_neg ne2]
          refine own_iload X20 hx hby at_131 rfl (pc' := 133) rfl ?_
          refine own_icmpN X20 hx hby at_133 (teq (by decide)).2 (pc' := 136) rfl ?_
          refine own_iconst X20 hx hby at_136 (v := (1 : Int32)) rfl (pc' := 137) rfl ?_
          refine own_goto X20 hx hby at_137 (by decide) (pc' := 141) (by decide) ?_
          exact own_retN X20 hx hby (fin _ _ hS) hret (by simp) rfl at_141 (by decide) (by decide) ⟨⟨rfl, Fr.nil _⟩, hk⟩
    · refine own_icmpY X hx hby at_26 (feq hc26_11).2 (by decide) (pc' := 35) (by decide) ?_
      obtain ⟨T21, X21, e21, st21⟩ := getS2 X hx hZ hown (host := "") (Or.inl (own_w hw 27 rfl)) Via.refl eT Sc2 (g := (mkF m 35 #[.val (.int p1), .val (.int p2), .val (.int z), .val (.int w), .unset, .unset, .unset] [])) rfl (hb hby at_35)
      refine own_step st21 ?_
      show GoP p e below Φ (T21.setTop (mkF m 38 #[.val (.int p1), .val (.int p2), .val (.int z), .val (.int w), .unset, .unset, .unset] [(.ref c2)]))
      refine own_astore X21 hx hby at_38 rfl (Ls' := #[.val (.int p1), .val (.int p2), .val (.int z), .val (.int w), .val (.ref c2), .unset, .unset]) rfl (pc' := 40) rfl ?_
      refine own_iloadN X21 hx hby at_40 rfl (pc' := 41) rfl ?_
      by_cases hc41_22 : w = (0 : Int32)
      · refine own_ifN X21 hx hby at_41 ((if0 _ _).trans (teq hc41_22).2) (pc' := 44) rfl ?_
        obtain ⟨T23, X23, e23, st23⟩ := getS2 X21 hx hZ hown (host := "") (Or.inl (own_w hw 4 rfl)) Via.refl e21 Sd0 (g := (mkF m 44 #[.val (.int p1), .val (.int p2), .val (.int z), .val (.int w), .val (.ref c2), .unset, .unset] [])) rfl (hb hby at_44)
        refine own_step st23 ?_
        show GoP p e below Φ (T23.setTop (mkF m 47 #[.val (.int p1), .val (.int p2), .val (.int z), .val (.int w), .val (.ref c2), .unset, .unset] [(.ref d0)]))
        refine own_goto X23 hx hby at_47 (by decide) (pc' := 64) (by decide) ?_
        refine own_astore X23 hx hby at_64 rfl (Ls' := #[.val (.int p1), .val (.int p2), .val (.int z), .val (.int w), .val (.ref c2), .val (.ref d0), .unset]) rfl (pc' := 66) rfl ?_
        refine own_iloadN X23 hx hby at_66 rfl (pc' := 67) rfl ?_
        refine own_ifN X23 hx hby at_67 ((if0 _ _).trans (teq hc41_22).2) (pc' := 70) rfl ?_
        refine own_iloadN X23 hx hby at_70 rfl (pc' := 71) rfl ?_
        refine own_ifY X23 hx hby at_71 ((if0 _ _).trans (feq hc15_1).2) (by decide) (pc' := 80) (by decide) ?_
        refine own_iloadN X23 hx hby at_80 rfl (pc' := 81) rfl ?_
        refine own_iconst X23 hx hby at_81 (v := (1 : Int32)) rfl (pc' := 82) rfl ?_
        refine own_icmpY X23 hx hby at_82 (feq hc26_11).2 (by decide) (pc' := 91) (by decide) ?_
        refine own_sipush X23 hx hby at_91 (v := (465 : Int32)) rfl (pc' := 94) rfl ?_
        refine own_istore X23 hx hby at_94  (Ls' := #[.val (.int p1), .val (.int p2), .val (.int z), .val (.int w), .val (.ref c2), .val (.ref d0), .val (.int (465 : Int32))]) rfl (pc' := 96) rfl ?_
        refine own_goto X23 hx hby at_96 (by decide) (pc' := 124) (by decide) ?_
        refine own_aload X23 hx hby at_124 rfl rfl (pc' := 126) rfl ?_
        refine own_aload X23 hx hby at_126 rfl rfl (pc' := 128) rfl ?_
        refine own_callVW X23 hx hby hZ (by exact hml) hown (own_w hw 7 rfl) (own_w hw 8 rfl) (own_w hw 10 rfl) (own_w hw 9 rfl) (own_w hw 2 rfl) (own_w hw 11 rfl) (by decide) e23 0 (by decide) (by decide) (by decide) (by decide) (argsL := [(.ref d0)]) (rest := []) (lenOf pd__Lcom_example_mailhelm_mailhelm_model_Security__I rfl) rfl (Nat.le_of_eq rfl) Ec2 (rmD l Z a0 hw c2 d0 d0 (465 : Int32) (587 : Int32) h0 Sd0 FTc2 FPc2) at_128 (pc' := 131) rfl hS hk ?_
        clear hS hk hZ hown
        intro v24 T24 L24 X24 hS hk hZ hown hge24 hQ24
        obtain ⟨rfl, rfl, E24⟩ := hQ24
        rw [List.append_nil] at X24
        show GoP p e below Φ (T24.setTop (mkF m 131 #[.val (.int p1), .val (.int p2), .val (.int z), .val (.int w), .val (.ref c2), .val (.ref d0), .val (.int (465 : Int32))] [(.int (if d0 = d0 then (465 : Int32) else (587 : Int32)))]))
        rw [if_pos rfl]
        refine own_iload X24 hx hby at_131 rfl (pc' := 133) rfl ?_
        refine own_icmpN X24 hx hby at_133 (teq (by decide)).2 (pc' := 136) rfl ?_
        refine own_iconst X24 hx hby at_136 (v := (1 : Int32)) rfl (pc' := 137) rfl ?_
        refine own_goto X24 hx hby at_137 (by decide) (pc' := 141) (by decide) ?_
        exact own_retN X24 hx hby (fin _ _ hS) hret (by simp) rfl at_141 (by decide) (by decide) ⟨⟨rfl, Fr.nil _⟩, hk⟩
      · refine own_ifY X21 hx hby at_41 ((if0 _ _).trans (feq hc41_22).2) (by decide) (pc' := 50) (by decide) ?_
        refine own_iloadN X21 hx hby at_50 rfl (pc' := 51) rfl ?_
        refine own_iconst X21 hx hby at_51 (v := (1 : Int32)) rfl (pc' := 52) rfl ?_
        by_cases hc52_25 : w = (1 : Int32)
        · refine own_icmpN X21 hx hby at_52 (teq hc52_25).2 (pc' := 55) rfl ?_
          obtain ⟨T26, X26, e26, st26⟩ := getS2 X21 hx hZ hown (host := "") (Or.inl (own_w hw 29 rfl)) Via.refl e21 Sd1 (g := (mkF m 55 #[.val (.int p1), .val (.int p2), .val (.int z), .val (.int w), .val (.ref c2), .unset, .unset] [])) rfl (hb hby at_55)
          refine own_step st26 ?_
          show GoP p e below Φ (T26.setTop (mkF m 58 #[.val (.int p1), .val (.int p2), .val (.int z), .val (.int w), .val (.ref c2), .unset, .unset] [(.ref d1)]))
          refine own_goto X26 hx hby at_58 (by decide) (pc' := 64) (by decide) ?_
          refine own_astore X26 hx hby at_64 rfl (Ls' := #[.val (.int p1), .val (.int p2), .val (.int z), .val (.int w), .val (.ref c2), .val (.ref d1), .unset]) rfl (pc' := 66) rfl ?_
          refine own_iloadN X26 hx hby at_66 rfl (pc' := 67) rfl ?_
          refine own_ifY X26 hx hby at_67 ((if0 _ _).trans (feq hc41_22).2) (by decide) (pc' := 99) (by decide) ?_
          refine own_iloadN X26 hx hby at_99 rfl (pc' := 100) rfl ?_
          refine own_ifY X26 hx hby at_100 ((if0 _ _).trans (feq hc15_1).2) (by decide) (pc' := 109) (by decide) ?_
          refine own_iloadN X26 hx hby at_109 rfl (pc' := 110) rfl ?_
          refine own_iconst X26 hx hby at_110 (v := (1 : Int32)) rfl (pc' := 111) rfl ?_
          refine own_icmpY X26 hx hby at_111 (feq hc26_11).2 (by decide) (pc' := 119) (by decide) ?_
          refine own_sipush X26 hx hby at_119 (v := (587 : Int32)) rfl (pc' := 122) rfl ?_
          refine own_istore X26 hx hby at_122  (Ls' := #[.val (.int p1), .val (.int p2), .val (.int z), .val (.int w), .val (.ref c2), .val (.ref d1), .val (.int (587 : Int32))]) rfl (pc' := 124) rfl ?_
          refine own_aload X26 hx hby at_124 rfl rfl (pc' := 126) rfl ?_
          refine own_aload X26 hx hby at_126 rfl rfl (pc' := 128) rfl ?_
          refine own_callVW X26 hx hby hZ (by exact hml) hown (own_w hw 7 rfl) (own_w hw 8 rfl) (own_w hw 10 rfl) (own_w hw 9 rfl) (own_w hw 2 rfl) (own_w hw 11 rfl) (by decide) e26 0 (by decide) (by decide) (by decide) (by decide) (argsL := [(.ref d1)]) (rest := []) (lenOf pd__Lcom_example_mailhelm_mailhelm_model_Security__I rfl) rfl (Nat.le_of_eq rfl) Ec2 (rmD l Z a0 hw c2 d1 d0 (465 : Int32) (587 : Int32) h0 Sd0 FTc2 FPc2) at_128 (pc' := 131) rfl hS hk ?_
          clear hS hk hZ hown
          intro v27 T27 L27 X27 hS hk hZ hown hge27 hQ27
          obtain ⟨rfl, rfl, E27⟩ := hQ27
          rw [List.append_nil] at X27
          show GoP p e below Φ (T27.setTop (mkF m 131 #[.val (.int p1), .val (.int p2), .val (.int z), .val (.int w), .val (.ref c2), .val (.ref d1), .val (.int (587 : Int32))] [(.int (if d1 = d0 then (465 : Int32) else (587 : Int32)))]))
          rw [if_neg ne1]
          refine own_iload X27 hx hby at_131 rfl (pc' := 133) rfl ?_
          refine own_icmpN X27 hx hby at_133 (teq (by decide)).2 (pc' := 136) rfl ?_
          refine own_iconst X27 hx hby at_136 (v := (1 : Int32)) rfl (pc' := 137) rfl ?_
          refine own_goto X27 hx hby at_137 (by decide) (pc' := 141) (by decide) ?_
          exact own_retN X27 hx hby (fin _ _ hS) hret (by simp) rfl at_141 (by decide) (by decide) ⟨⟨rfl, Fr.nil _⟩, hk⟩
        · refine own_icmpY X21 hx hby at_52 (feq hc52_25).2 (by decide) (pc' := 61) (by decide) ?_
          obtain ⟨T28, X28, e28, st28⟩ := getS2 X21 hx hZ hown (host := "") (Or.inl (own_w hw 33 rfl)) Via.refl e21 Sd2 (g := (mkF m 61 #[.val (.int p1), .val (.int p2), .val (.int z), .val (.int w), .val (.ref c2), .unset, .unset] [])) rfl (hb hby at_61)
          refine own_step st28 ?_
          show GoP p e below Φ (T28.setTop (mkF m 64 #[.val (.int p1), .val (.int p2), .val (.int z), .val (.int w), .val (.ref c2), .unset, .unset] [(.ref d2)]))
          refine own_astore X28 hx hby at_64 rfl (Ls' := #[.val (.int p1), .val (.int p2), .val (.int z), .val (.int w), .val (.ref c2), .val (.ref d2), .unset]) rfl (pc' := 66) rfl ?_
          refine own_iloadN X28 hx hby at_66 rfl (pc' := 67) rfl ?_
          refine own_ifY X28 hx hby at_67 ((if0 _ _).trans (feq hc41_22).2) (by decide) (pc' := 99) (by decide) ?_
          refine own_iloadN X28 hx hby at_99 rfl (pc' := 100) rfl ?_
          refine own_ifY X28 hx hby at_100 ((if0 _ _).trans (feq hc15_1).2) (by decide) (pc' := 109) (by decide) ?_
          refine own_iloadN X28 hx hby at_109 rfl (pc' := 110) rfl ?_
          refine own_iconst X28 hx hby at_110 (v := (1 : Int32)) rfl (pc' := 111) rfl ?_
          refine own_icmpY X28 hx hby at_111 (feq hc26_11).2 (by decide) (pc' := 119) (by decide) ?_
          refine own_sipush X28 hx hby at_119 (v := (587 : Int32)) rfl (pc' := 122) rfl ?_
          refine own_istore X28 hx hby at_122  (Ls' := #[.val (.int p1), .val (.int p2), .val (.int z), .val (.int w), .val (.ref c2), .val (.ref d2), .val (.int (587 : Int32))]) rfl (pc' := 124) rfl ?_
          refine own_aload X28 hx hby at_124 rfl rfl (pc' := 126) rfl ?_
          refine own_aload X28 hx hby at_126 rfl rfl (pc' := 128) rfl ?_
          refine own_callVW X28 hx hby hZ (by exact hml) hown (own_w hw 7 rfl) (own_w hw 8 rfl) (own_w hw 10 rfl) (own_w hw 9 rfl) (own_w hw 2 rfl) (own_w hw 11 rfl) (by decide) e28 0 (by decide) (by decide) (by decide) (by decide) (argsL := [(.ref d2)]) (rest := []) (lenOf pd__Lcom_example_mailhelm_mailhelm_model_Security__I rfl) rfl (Nat.le_of_eq rfl) Ec2 (rmD l Z a0 hw c2 d2 d0 (465 : Int32) (587 : Int32) h0 Sd0 FTc2 FPc2) at_128 (pc' := 131) rfl hS hk ?_
          clear hS hk hZ hown
          intro v29 T29 L29 X29 hS hk hZ hown hge29 hQ29
          obtain ⟨rfl, rfl, E29⟩ := hQ29
          rw [List.append_nil] at X29
          show GoP p e below Φ (T29.setTop (mkF m 131 #[.val (.int p1), .val (.int p2), .val (.int z), .val (.int w), .val (.ref c2), .val (.ref d2), .val (.int (587 : Int32))] [(.int (if d2 = d0 then (465 : Int32) else (587 : Int32)))]))
          rw [if_neg ne2]
          refine own_iload X29 hx hby at_131 rfl (pc' := 133) rfl ?_
          refine own_icmpN X29 hx hby at_133 (teq (by decide)).2 (pc' := 136) rfl ?_
          refine own_iconst X29 hx hby at_136 (v := (1 : Int32)) rfl (pc' := 137) rfl ?_
          refine own_goto X29 hx hby at_137 (by decide) (pc' := 141) (by decide) ?_
          exact own_retN X29 hx hby (fin _ _ hS) hret (by simp) rfl at_141 (by decide) (by decide) ⟨⟨rfl, Fr.nil _⟩, hk⟩
set_option maxRecDepth 65536 in
set_option maxHeartbeats 40000000 in
theorem comes_1 {Post : Tables → Env → Array Value → State → Outcome → State → Prop} (hpost : ∀ tb e args s v u, (limb_1_1.after args s (.returned v) u = true ∧ limb_1_2.after args s (.returned v) u = true ∧ True) → ReturnedEndW s (.returned v) u (Jvm.fieldLocs frame_1_writes args s ++ Jvm.arrayLocs frame_1_arrays args s ++ Jvm.staticLocs frame_1_statics s) 8 1088 → Post tb e args s (.returned v) u) :
    ArmFor flags0 classFile x code maxLocals ret World_1 tables_1 room_1 Calls_1 rest_1 Pre_1 Post := by
  intro l hfl _ _ p e ha hc hk s m args below hf hA hF happ hP
  obtain ⟨hcalls, hrest, hpre⟩ := hP
  obtain ⟨-, -, -, hnamed, -, -, -, hat⟩ := (Spec.applies_iff hf).mp happ
  obtain ⟨hg, hn⟩ := and_e (Cond.before_iff.mp (show (Jvm.Cond.and given_1 narrow_1).before args s = true from hpre))
  obtain ⟨g0, hg⟩ := and_e hg
  obtain ⟨w0, w1, rfl⟩ : ∃ w0 w1 : Value, args = #[w0, w1] := by
    have hs : args.size = 2 := by simpa [Cond.value, given_1] using g0
    obtain ⟨L⟩ := args
    match L, hs with
    | [w0, w1], _ => exact ⟨w0, w1, rfl⟩
  obtain ⟨q0, hg⟩ := and_e hg
  have q1 := hg
  have hw := fun d (hd : d ∈ tables_1) => atoms_spec (ws := Jvm.Cond.code x code maxLocals ret :: tables_1) hat d (List.mem_cons_of_mem _ hd)
  have hfit : Fit s := fun {y c} hc i hi => by
    obtain ⟨ha, rfl⟩ := Array.getElem?_eq_some_iff.mp hc
    have q := List.all_eq_true.mp ((Array.all_eq_true_iff_forall_mem.mp hF) _ (Array.getElem_mem ha)) i (List.mem_range.mpr hi)
    simpa [Array.getElem?_eq_getElem hi] using q
  obtain ⟨i0, f0⟩ := is_v q0
  obtain rfl : w0 = (.int i0) := Option.some.inj f0
  obtain ⟨i1, f1⟩ := is_v q1
  obtain rfl : w1 = (.int i1) := Option.some.inj f1
  obtain ⟨nn0, hn⟩ := and_e hn
  obtain ⟨nn1, hn⟩ := and_e hn
  obtain ⟨nn2, hn⟩ := and_e hn
  obtain ⟨nn3, hn⟩ := and_e hn
  obtain ⟨nn4, hn⟩ := and_e hn
  obtain ⟨nn5, hn⟩ := and_e hn
  obtain ⟨nn6, hn⟩ := and_e hn
  obtain ⟨nn7, hn⟩ := and_e hn
  obtain ⟨nn8, hn⟩ := and_e hn
  obtain ⟨nn9, hn⟩ := and_e hn
  obtain ⟨nn10, hn⟩ := and_e hn
  obtain ⟨nn11, hn⟩ := and_e hn
  obtain ⟨nn12, hn⟩ := and_e hn
  obtain ⟨nn13, hn⟩ := and_e hn
  have nn14 := hn
  obtain ⟨a_IMAP, ev_IMAP⟩ := exa_v nn0
  have E_IMAP := Exa.start ev_IMAP nn0
  have S_IMAP := Sta.start ev_IMAP (Or.inr ⟨(own_w hw 2 rfl), (own_w hw 3 rfl)⟩)
  obtain ⟨a_TLS, ev_TLS⟩ := exa_v nn1
  have E_TLS := Exa.start ev_TLS nn1
  have S_TLS := Sta.start ev_TLS (Or.inr ⟨(own_w hw 5 rfl), (own_w hw 6 rfl)⟩)
  obtain ⟨a_SMTP, ev_SMTP⟩ := exa_v nn3
  have E_SMTP := Exa.start ev_SMTP nn3
  have S_SMTP := Sta.start ev_SMTP (Or.inr ⟨(own_w hw 2 rfl), (own_w hw 28 rfl)⟩)
  obtain ⟨a_STARTTLS, ev_STARTTLS⟩ := exa_v nn4
  have E_STARTTLS := Exa.start ev_STARTTLS nn4
  have S_STARTTLS := Sta.start ev_STARTTLS (Or.inr ⟨(own_w hw 5 rfl), (own_w hw 30 rfl)⟩)
  obtain ⟨a_PLAIN, ev_PLAIN⟩ := exa_v nn8
  have E_PLAIN := Exa.start ev_PLAIN nn8
  have S_PLAIN := Sta.start ev_PLAIN (Or.inr ⟨(own_w hw 5 rfl), (own_w hw 34 rfl)⟩)
  obtain ⟨a_POP3, ev_POP3⟩ := exa_v nn11
  have E_POP3 := Exa.start ev_POP3 nn11
  have S_POP3 := Sta.start ev_POP3 (Or.inr ⟨(own_w hw 2 rfl), (own_w hw 36 rfl)⟩)
  have O_IMAP_tlsPort : Fld s s.heap a_IMAP "com/example/mailhelm/mailhelm/model/MailProtocol" "tlsPort" "I" (.int (993 : Int32)) := own_fldI ev_IMAP nn2
  have O_STARTTLS_ordinal : Fld s s.heap a_STARTTLS "java/lang/Enum" "ordinal" "I" (.int (1 : Int32)) := own_fldI ev_STARTTLS nn5
  have O_TLS_ordinal : Fld s s.heap a_TLS "java/lang/Enum" "ordinal" "I" (.int (0 : Int32)) := own_fldI ev_TLS nn6
  have O_SMTP_plainPort : Fld s s.heap a_SMTP "com/example/mailhelm/mailhelm/model/MailProtocol" "plainPort" "I" (.int (587 : Int32)) := own_fldI ev_SMTP nn7
  have O_PLAIN_ordinal : Fld s s.heap a_PLAIN "java/lang/Enum" "ordinal" "I" (.int (2 : Int32)) := own_fldI ev_PLAIN nn9
  have O_IMAP_plainPort : Fld s s.heap a_IMAP "com/example/mailhelm/mailhelm/model/MailProtocol" "plainPort" "I" (.int (143 : Int32)) := own_fldI ev_IMAP nn10
  have O_POP3_tlsPort : Fld s s.heap a_POP3 "com/example/mailhelm/mailhelm/model/MailProtocol" "tlsPort" "I" (.int (995 : Int32)) := own_fldI ev_POP3 nn12
  have O_POP3_plainPort : Fld s s.heap a_POP3 "com/example/mailhelm/mailhelm/model/MailProtocol" "plainPort" "I" (.int (110 : Int32)) := own_fldI ev_POP3 nn13
  have O_SMTP_tlsPort : Fld s s.heap a_SMTP "com/example/mailhelm/mailhelm/model/MailProtocol" "tlsPort" "I" (.int (465 : Int32)) := own_fldI ev_SMTP nn14
  obtain ⟨n, o, h1, h2, h3, _, L, rfl, ⟨rfl, N⟩, hq⟩ := rm0 l s _ hw i0 i1 a_IMAP a_POP3 a_SMTP a_TLS a_STARTTLS a_PLAIN s.heap S_IMAP E_IMAP O_IMAP_tlsPort O_IMAP_plainPort S_POP3 E_POP3 O_POP3_tlsPort O_POP3_plainPort S_SMTP E_SMTP O_SMTP_tlsPort O_SMTP_plainPort S_TLS S_STARTTLS S_PLAIN (Fld.ne O_STARTTLS_ordinal O_TLS_ordinal (by decide)) (Fld.ne O_PLAIN_ordinal O_TLS_ordinal (by decide)) p e ha hc hk s m _ below hf ((Spec.applies_iff_loose hf).mp happ).1 ⟨rfl, State.Warmed39.refl s, rfl⟩ trivial
  refine ⟨n, _, h1, h2, h3, hpost _ _ _ _ _ _ ⟨Cond.after_iff.mpr rfl, Cond.after_iff.mpr (eq_i res_at (Term.int_eval (1)) rfl), trivial⟩ ⟨hq.1, hq.2.1, hq.2.2.1, (hq.2.2.2.sift fun y hy => Or.inr (N y hy)).mono (by decide) (by decide)⟩⟩
theorem main_1_1 : Claimed_1_1 := comes_1 fun _ _ _ _ _ _ h hF => ⟨h.1, hF⟩
theorem main_1_2 : Claimed_1_2 := comes_1 fun _ _ _ _ _ _ h hF => ⟨h.2.1, hF⟩
end Jvm.Pilot.@@N@@
namespace Jvm.Pilot.@@N@@
open Jvm Jvm.ClassFile Sem Op Lib Jvm.Free Jvm.Stand Jvm.Pilot.@@N@@.Jvm.D
/-! MADE BY PROGRAM (witnessworld.py) out of the Statement's table words and the real class files: 17 classes; the members and pool entries that the words name. The judged class is class 1, her method 1. -/
namespace start1
open Jvm.ClassFile
def u (s : String) : CpInfo := .utf8 (stringToUtf16 s)
/-- a pool by its gaps: so many unusable entries, then the entry; so many at the end -/
def gap : Nat → List CpInfo → List CpInfo
  | 0, r => r
  | n + 1, r => .unusable :: gap n r
def poolList (es : List (Nat × CpInfo)) (last : Nat) : List CpInfo := es.foldr (fun e r => gap e.1 (e.2 :: r)) (gap last [])
def pool (es : List (Nat × CpInfo)) (last : Nat) : Array CpInfo := ⟨poolList es last⟩
def fileOf (pool : Array CpInfo) (this : Nat) (attrs : Array Attribute := #[]) (ms : Array MethodInfo := #[]) (fl : Nat := 33) (sup : Nat := 0) (ifs : Array Nat := #[]) (fds : Array FieldInfo := #[]) : ClassFile where
  minorVersion := 0
  majorVersion := 65
  constantPool := pool
  accessFlags := fl
  thisClass := this
  superClass := sup
  interfaces := ifs
  fields := fds
  methods := ms
  attributes := attrs
def plain (name : String) (sup : Option ClassId) : Class where
  name := name
  kind := .ordinary
  loader := none
  accessFlags := 33
  super := sup
  interfaces := #[]
  cf := none
  fields := #[]
  methods := #[]
  instanceTypes := #[]
  staticTypes := #[]
  resolved := #[]
  callSites := []
  init := .initialized
  statics := none
  mirror := none

def pool0 : Array CpInfo := pool [(5, u "<init>"), (0, u "()V"), (1, .class_ 10), (1, u "java/lang/Object")] 113

def k0m0 : Method := { name := "<init>", desc := "()V", sig := { parameters := [], returnType := none }, accessFlags := 1, code := none }
/-- java/lang/Object -/
def k0 : Class := { plain "java/lang/Object" none with
  accessFlags := 33
  interfaces := #[]
  cf := some (fileOf pool0 8 #[] #[{ accessFlags := 1, nameIndex := 5, descriptorIndex := 6, attributes := #[] }] 33 0 #[] #[])
  fields := #[]
  methods := #[k0m0]
  instanceTypes := #[]
  staticTypes := #[]
  resolved := Array.replicate 124 none
  statics := none }

def pool1 : Array CpInfo := pool [(2, .class_ 4), (1, u "java/lang/Object"), (0, u "<init>"), (0, u "()V"), (0, .integer 2147483647), (0, .fieldref 9 10), (0, .class_ 11), (0, .nameAndType 12 13), (0, u "com/example/mailhelm/mailhelm/model/MailProtocol"), (0, u "IMAP"), (0, u "Lcom/example/mailhelm/mailhelm/model/MailProtocol;"), (0, .fieldref 9 15), (0, .nameAndType 16 13), (0, u "POP3"), (0, .fieldref 9 18), (0, .nameAndType 19 13), (0, u "SMTP"), (0, .fieldref 21 22), (0, .class_ 23), (0, .nameAndType 24 25), (0, u "com/example/mailhelm/mailhelm/model/Security"), (0, u "TLS"), (0, u "Lcom/example/mailhelm/mailhelm/model/Security;"), (0, .fieldref 21 27), (0, .nameAndType 28 25), (0, u "STARTTLS"), (0, .fieldref 21 30), (0, .nameAndType 31 25), (0, u "PLAIN"), (0, .methodref 9 33), (0, .nameAndType 34 35), (0, u "defaultPort"), (0, u "(Lcom/example/mailhelm/mailhelm/model/Security;)I"), (0, .class_ 37), (0, u "com/example/mailhelm/mailhelm/model/MailProtocolDefaultPortPinLaw"), (2, u "law"), (0, u "(II)Z")] 3

def k1m0 : Method := { name := "<init>", desc := "()V", sig := { parameters := [], returnType := none }, accessFlags := 1, code := none }
def k1c1 : Code := { maxStack := 2, maxLocals := 7, code := code, exceptionTable := #[], attributes := #[] }
def k1m1 : Method := { name := "law", desc := "(II)Z", sig := { parameters := [.int, .int], returnType := some .boolean }, accessFlags := 9, code := some k1c1 }
/-- com/example/mailhelm/mailhelm/model/MailProtocolDefaultPortPinLaw -/
def k1 : Class := { plain "com/example/mailhelm/mailhelm/model/MailProtocolDefaultPortPinLaw" (some 0) with
  accessFlags := 49
  interfaces := #[]
  cf := some (fileOf pool1 36 #[] #[{ accessFlags := 1, nameIndex := 5, descriptorIndex := 6, attributes := #[] }, { accessFlags := 9, nameIndex := 40, descriptorIndex := 41, attributes := #[] }] 49 2 #[] #[])
  fields := #[]
  methods := #[k1m0, k1m1]
  instanceTypes := #[]
  staticTypes := #[]
  resolved := Array.replicate 45 none
  statics := none }

def pool2 : Array CpInfo := pool [(1, .class_ 2), (0, u "java/lang/constant/Constable"), (0, .class_ 4), (0, u "java/lang/Object")] 6

/-- java/lang/constant/Constable -/
def k2 : Class := { plain "java/lang/constant/Constable" (some 0) with
  accessFlags := 1537
  interfaces := #[]
  cf := some (fileOf pool2 1 #[] #[] 1537 3 #[] #[])
  fields := #[]
  methods := #[]
  instanceTypes := #[]
  staticTypes := #[]
  resolved := Array.replicate 11 none
  statics := none }

def pool3 : Array CpInfo := pool [(1, .class_ 2), (0, u "java/lang/Comparable"), (0, .class_ 4), (0, u "java/lang/Object")] 7

/-- java/lang/Comparable -/
def k3 : Class := { plain "java/lang/Comparable" (some 0) with
  accessFlags := 1537
  interfaces := #[]
  cf := some (fileOf pool3 1 #[] #[] 1537 3 #[] #[])
  fields := #[]
  methods := #[]
  instanceTypes := #[]
  staticTypes := #[]
  resolved := Array.replicate 12 none
  statics := none }

def pool4 : Array CpInfo := pool [(1, .class_ 2), (0, u "java/io/Serializable"), (0, .class_ 4), (0, u "java/lang/Object")] 2

/-- java/io/Serializable -/
def k4 : Class := { plain "java/io/Serializable" (some 0) with
  accessFlags := 1537
  interfaces := #[]
  cf := some (fileOf pool4 1 #[] #[] 1537 3 #[] #[])
  fields := #[]
  methods := #[]
  instanceTypes := #[]
  staticTypes := #[]
  resolved := Array.replicate 7 none
  statics := none }

def pool5 : Array CpInfo := pool [(2, .class_ 4), (1, u "java/lang/Enum"), (0, u "name"), (0, u "Ljava/lang/String;"), (2, u "ordinal"), (0, u "I"), (1, .class_ 14), (1, u "java/lang/Object"), (4, u "hash"), (86, .class_ 108), (1, u "java/lang/Enum$EnumDesc"), (2, .class_ 112), (0, u "java/lang/constant/Constable"), (0, .class_ 114), (0, u "java/lang/Comparable"), (0, .class_ 116), (0, u "java/io/Serializable")] 87

/-- java/lang/Enum -/
def k5 : Class := { plain "java/lang/Enum" (some 0) with
  accessFlags := 1057
  interfaces := #[2, 3, 4]
  cf := some (fileOf pool5 2 #[.nestMembers #[106]] #[] 1057 12 #[111, 113, 115] #[{ accessFlags := 18, nameIndex := 5, descriptorIndex := 6, attributes := #[] }, { accessFlags := 18, nameIndex := 9, descriptorIndex := 10, attributes := #[] }, { accessFlags := 2, nameIndex := 19, descriptorIndex := 10, attributes := #[] }])
  fields := #[{ name := "name", type := (.object "java/lang/String"), accessFlags := 18, slot := 0, constantValue := 0 }, { name := "ordinal", type := .int, accessFlags := 18, slot := 1, constantValue := 0 }, { name := "hash", type := .int, accessFlags := 2, slot := 2, constantValue := 0 }]
  methods := #[]
  instanceTypes := #[(.object "java/lang/String"), .int, .int]
  staticTypes := #[]
  resolved := Array.replicate 204 none
  statics := none }

def pool6 : Array CpInfo := pool [(1, .class_ 2), (0, u "com/example/mailhelm/mailhelm/model/MailProtocol"), (2, u "IMAP"), (0, u "Lcom/example/mailhelm/mailhelm/model/MailProtocol;"), (2, u "POP3"), (2, u "SMTP"), (2, u "$VALUES"), (0, u "[Lcom/example/mailhelm/mailhelm/model/MailProtocol;"), (6, .class_ 25), (1, u "java/lang/Enum"), (6, .fieldref 1 33), (0, .nameAndType 34 35), (0, u "tlsPort"), (0, u "I"), (0, .fieldref 1 37), (0, .nameAndType 38 35), (0, u "plainPort"), (16, .string 56), (0, u "security"), (0, .methodref 58 59), (0, .class_ 60), (0, .nameAndType 61 62), (0, u "java/util/Objects"), (0, u "requireNonNull"), (0, u "(Ljava/lang/Object;Ljava/lang/String;)Ljava/lang/Object;"), (0, .fieldref 64 65), (0, .class_ 66), (0, .nameAndType 67 68), (0, u "com/example/mailhelm/mailhelm/model/Security"), (0, u "TLS"), (0, u "Lcom/example/mailhelm/mailhelm/model/Security;"), (85, u "defaultPort"), (0, u "(Lcom/example/mailhelm/mailhelm/model/Security;)I")] 50

def k6c0 : Code := { maxStack := 2, maxLocals := 2, code := prog_16_method_5_code, exceptionTable := #[], attributes := #[] }
def k6m0 : Method := { name := "defaultPort", desc := "(Lcom/example/mailhelm/mailhelm/model/Security;)I", sig := { parameters := [(.object "com/example/mailhelm/mailhelm/model/Security")], returnType := some .int }, accessFlags := 1, code := some k6c0 }
/-- com/example/mailhelm/mailhelm/model/MailProtocol -/
def k6 : Class := { plain "com/example/mailhelm/mailhelm/model/MailProtocol" (some 5) with
  accessFlags := 16433
  interfaces := #[]
  cf := some (fileOf pool6 1 #[] #[{ accessFlags := 1, nameIndex := 154, descriptorIndex := 155, attributes := #[] }] 16433 23 #[] #[{ accessFlags := 16409, nameIndex := 5, descriptorIndex := 6, attributes := #[] }, { accessFlags := 16409, nameIndex := 9, descriptorIndex := 6, attributes := #[] }, { accessFlags := 16409, nameIndex := 12, descriptorIndex := 6, attributes := #[] }, { accessFlags := 18, nameIndex := 34, descriptorIndex := 35, attributes := #[] }, { accessFlags := 18, nameIndex := 38, descriptorIndex := 35, attributes := #[] }, { accessFlags := 4122, nameIndex := 15, descriptorIndex := 16, attributes := #[] }])
  fields := #[{ name := "IMAP", type := (.object "com/example/mailhelm/mailhelm/model/MailProtocol"), accessFlags := 16409, slot := 0, constantValue := 0 }, { name := "POP3", type := (.object "com/example/mailhelm/mailhelm/model/MailProtocol"), accessFlags := 16409, slot := 1, constantValue := 0 }, { name := "SMTP", type := (.object "com/example/mailhelm/mailhelm/model/MailProtocol"), accessFlags := 16409, slot := 2, constantValue := 0 }, { name := "tlsPort", type := .int, accessFlags := 18, slot := 3, constantValue := 0 }, { name := "plainPort", type := .int, accessFlags := 18, slot := 4, constantValue := 0 }, { name := "$VALUES", type := (.array (.object "com/example/mailhelm/mailhelm/model/MailProtocol")), accessFlags := 4122, slot := 3, constantValue := 0 }]
  methods := #[k6m0]
  instanceTypes := #[(.object "java/lang/String"), .int, .int, .int, .int]
  staticTypes := #[(.object "com/example/mailhelm/mailhelm/model/MailProtocol"), (.object "com/example/mailhelm/mailhelm/model/MailProtocol"), (.object "com/example/mailhelm/mailhelm/model/MailProtocol"), (.array (.object "com/example/mailhelm/mailhelm/model/MailProtocol"))]
  resolved := Array.replicate 206 none
  statics := some 0 }

def pool7 : Array CpInfo := pool [(1, .class_ 2), (0, u "com/example/mailhelm/mailhelm/model/Security"), (2, u "TLS"), (0, u "Lcom/example/mailhelm/mailhelm/model/Security;"), (2, u "STARTTLS"), (2, u "PLAIN"), (2, u "$VALUES"), (0, u "[Lcom/example/mailhelm/mailhelm/model/Security;"), (6, .class_ 25), (1, u "java/lang/Enum"), (8, u "label"), (0, u "Ljava/lang/String;")] 29

/-- com/example/mailhelm/mailhelm/model/Security -/
def k7 : Class := { plain "com/example/mailhelm/mailhelm/model/Security" (some 5) with
  accessFlags := 16433
  interfaces := #[]
  cf := some (fileOf pool7 1 #[] #[] 16433 23 #[] #[{ accessFlags := 16409, nameIndex := 5, descriptorIndex := 6, attributes := #[] }, { accessFlags := 16409, nameIndex := 9, descriptorIndex := 6, attributes := #[] }, { accessFlags := 16409, nameIndex := 12, descriptorIndex := 6, attributes := #[] }, { accessFlags := 18, nameIndex := 34, descriptorIndex := 35, attributes := #[] }, { accessFlags := 4122, nameIndex := 15, descriptorIndex := 16, attributes := #[] }])
  fields := #[{ name := "TLS", type := (.object "com/example/mailhelm/mailhelm/model/Security"), accessFlags := 16409, slot := 0, constantValue := 0 }, { name := "STARTTLS", type := (.object "com/example/mailhelm/mailhelm/model/Security"), accessFlags := 16409, slot := 1, constantValue := 0 }, { name := "PLAIN", type := (.object "com/example/mailhelm/mailhelm/model/Security"), accessFlags := 16409, slot := 2, constantValue := 0 }, { name := "label", type := (.object "java/lang/String"), accessFlags := 18, slot := 3, constantValue := 0 }, { name := "$VALUES", type := (.array (.object "com/example/mailhelm/mailhelm/model/Security")), accessFlags := 4122, slot := 3, constantValue := 0 }]
  methods := #[]
  instanceTypes := #[(.object "java/lang/String"), .int, .int, (.object "java/lang/String")]
  staticTypes := #[(.object "com/example/mailhelm/mailhelm/model/Security"), (.object "com/example/mailhelm/mailhelm/model/Security"), (.object "com/example/mailhelm/mailhelm/model/Security"), (.array (.object "com/example/mailhelm/mailhelm/model/Security"))]
  resolved := Array.replicate 65 none
  statics := some 1 }

def pool8 : Array CpInfo := pool [(2, .class_ 4), (1, u "java/lang/CharSequence"), (42, .class_ 48), (0, u "java/lang/CharSequence$1CodePointIterator"), (10, .class_ 60), (0, u "java/lang/CharSequence$1CharIterator"), (5, .class_ 67), (0, u "java/lang/Object")] 63

/-- java/lang/CharSequence -/
def k8 : Class := { plain "java/lang/CharSequence" (some 0) with
  accessFlags := 1537
  interfaces := #[]
  cf := some (fileOf pool8 2 #[.nestMembers #[47, 59]] #[] 1537 66 #[] #[])
  fields := #[]
  methods := #[]
  instanceTypes := #[]
  staticTypes := #[]
  resolved := Array.replicate 131 none
  statics := none }

def pool9 : Array CpInfo := pool [(1, .class_ 2), (0, u "java/lang/constant/ConstantDesc"), (0, .class_ 4), (0, u "java/lang/Object")] 32

/-- java/lang/constant/ConstantDesc -/
def k9 : Class := { plain "java/lang/constant/ConstantDesc" (some 0) with
  accessFlags := 1537
  interfaces := #[]
  cf := some (fileOf pool9 1 #[] #[] 1537 3 #[] #[])
  fields := #[]
  methods := #[]
  instanceTypes := #[]
  staticTypes := #[]
  resolved := Array.replicate 37 none
  statics := none }

def pool10 : Array CpInfo := pool [(2, .class_ 4), (1, u "java/lang/Object"), (0, u "<init>"), (0, u "()V"), (3, .class_ 12), (1, u "java/lang/String"), (0, u "value"), (0, u "[B"), (2, u "coder"), (0, u "B"), (2, u "hash"), (0, u "I"), (2, u "hashIsZero"), (0, u "Z"), (13, u "COMPACT_STRINGS"), (534, .class_ 576), (0, u "java/lang/CharSequence"), (22, u "CASE_INSENSITIVE_ORDER"), (0, u "Ljava/util/Comparator;"), (500, u "serialPersistentFields"), (0, u "[Ljava/io/ObjectStreamField;"), (0, .class_ 1104), (0, u "java/lang/String$CaseInsensitiveComparator"), (1, .class_ 1107), (0, u "java/io/Serializable"), (0, .class_ 1109), (0, u "java/lang/Comparable"), (0, .class_ 1111), (0, u "java/lang/constant/Constable"), (0, .class_ 1113), (0, u "java/lang/constant/ConstantDesc"), (2, u "serialVersionUID"), (0, u "J"), (3, u "REPL"), (0, u "C"), (2, u "LATIN1"), (1, u "UTF16")] 323

def k10m0 : Method := { name := "<init>", desc := "()V", sig := { parameters := [], returnType := none }, accessFlags := 1, code := none }
/-- java/lang/String -/
def k10 : Class := { plain "java/lang/String" (some 0) with
  accessFlags := 49
  interfaces := #[4, 3, 8, 2, 9]
  cf := some (fileOf pool10 10 #[.nestMembers #[1103]] #[{ accessFlags := 1, nameIndex := 5, descriptorIndex := 6, attributes := #[] }] 49 2 #[1106, 1108, 575, 1110, 1112] #[{ accessFlags := 18, nameIndex := 13, descriptorIndex := 14, attributes := #[] }, { accessFlags := 18, nameIndex := 17, descriptorIndex := 18, attributes := #[] }, { accessFlags := 2, nameIndex := 21, descriptorIndex := 22, attributes := #[] }, { accessFlags := 2, nameIndex := 25, descriptorIndex := 26, attributes := #[] }, { accessFlags := 26, nameIndex := 1116, descriptorIndex := 1117, attributes := #[] }, { accessFlags := 24, nameIndex := 40, descriptorIndex := 26, attributes := #[] }, { accessFlags := 26, nameIndex := 1101, descriptorIndex := 1102, attributes := #[] }, { accessFlags := 26, nameIndex := 1121, descriptorIndex := 1122, attributes := #[] }, { accessFlags := 25, nameIndex := 599, descriptorIndex := 600, attributes := #[] }, { accessFlags := 24, nameIndex := 1125, descriptorIndex := 18, attributes := #[] }, { accessFlags := 24, nameIndex := 1127, descriptorIndex := 18, attributes := #[] }])
  fields := #[{ name := "value", type := (.array .byte), accessFlags := 18, slot := 0, constantValue := 0 }, { name := "coder", type := .byte, accessFlags := 18, slot := 1, constantValue := 0 }, { name := "hash", type := .int, accessFlags := 2, slot := 2, constantValue := 0 }, { name := "hashIsZero", type := .boolean, accessFlags := 2, slot := 3, constantValue := 0 }, { name := "serialVersionUID", type := .long, accessFlags := 26, slot := 0, constantValue := 0 }, { name := "COMPACT_STRINGS", type := .boolean, accessFlags := 24, slot := 1, constantValue := 0 }, { name := "serialPersistentFields", type := (.array (.object "java/io/ObjectStreamField")), accessFlags := 26, slot := 2, constantValue := 0 }, { name := "REPL", type := .char, accessFlags := 26, slot := 3, constantValue := 0 }, { name := "CASE_INSENSITIVE_ORDER", type := (.object "java/util/Comparator"), accessFlags := 25, slot := 4, constantValue := 0 }, { name := "LATIN1", type := .byte, accessFlags := 24, slot := 5, constantValue := 0 }, { name := "UTF16", type := .byte, accessFlags := 24, slot := 6, constantValue := 0 }]
  methods := #[k10m0]
  instanceTypes := #[(.array .byte), .byte, .int, .boolean]
  staticTypes := #[.long, .boolean, (.array (.object "java/io/ObjectStreamField")), .char, (.object "java/util/Comparator"), .byte, .byte]
  resolved := Array.replicate 1451 none
  statics := none }

def pool11 : Array CpInfo := pool [(2, .class_ 4), (1, u "java/lang/Object"), (0, u "<init>"), (0, u "()V"), (35, .class_ 44), (1, u "java/util/Objects"), (0, u "requireNonNull"), (48, u "(Ljava/lang/Object;Ljava/lang/String;)Ljava/lang/Object;")] 89

def k11m0 : Method := { name := "<init>", desc := "()V", sig := { parameters := [], returnType := none }, accessFlags := 2, code := none }
def k11c1 : Code := { maxStack := 3, maxLocals := 2, code := jdk_31_method_11_code, exceptionTable := #[], attributes := #[] }
def k11m1 : Method := { name := "requireNonNull", desc := "(Ljava/lang/Object;Ljava/lang/String;)Ljava/lang/Object;", sig := { parameters := [(.object "java/lang/Object"), (.object "java/lang/String")], returnType := some (.object "java/lang/Object") }, accessFlags := 9, code := some k11c1 }
/-- java/util/Objects -/
def k11 : Class := { plain "java/util/Objects" (some 0) with
  accessFlags := 49
  interfaces := #[]
  cf := some (fileOf pool11 42 #[] #[{ accessFlags := 2, nameIndex := 5, descriptorIndex := 6, attributes := #[] }, { accessFlags := 9, nameIndex := 45, descriptorIndex := 94, attributes := #[] }] 49 2 #[] #[])
  fields := #[]
  methods := #[k11m0, k11m1]
  instanceTypes := #[]
  staticTypes := #[]
  resolved := Array.replicate 184 none
  statics := none }

def pool12 : Array CpInfo := pool [(1, u "java/lang/Cloneable"), (0, .class_ 1), (0, u "java/lang/Object"), (0, .class_ 3)] 3

/-- java/lang/Cloneable -/
def k12 : Class := { plain "java/lang/Cloneable" (some 0) with
  accessFlags := 1537
  interfaces := #[]
  cf := some (fileOf pool12 2 #[] #[] 1537 4 #[] #[])
  fields := #[]
  methods := #[]
  instanceTypes := #[]
  staticTypes := #[]
  resolved := Array.replicate 8 none
  statics := none }

/-- the primitive byte -/
def k13 : Class := { plain "byte" none with kind := .primitive 'B', accessFlags := 0x411 }
/-- [B -/
def k14 : Class := { plain "[B" (some 0) with kind := .array 13 .byte, interfaces := #[12, 4], accessFlags := 1041 }

/-- the primitive int -/
def k15 : Class := { plain "int" none with kind := .primitive 'I', accessFlags := 0x411 }
/-- [I -/
def k16 : Class := { plain "[I" (some 0) with kind := .array 15 .int, interfaces := #[12, 4], accessFlags := 1041 }

def heap : Heap := #[{ cls := 6, slots := #[.ref 2, .ref 3, .ref 4, .null], vm := .statics 6 },
  { cls := 7, slots := #[.ref 5, .ref 6, .ref 7, .null], vm := .statics 7 },
  { cls := 6, slots := #[.null, .int 0, .int 0, .int 993, .int 143], vm := .none },
  { cls := 6, slots := #[.null, .int 1, .int 0, .int 995, .int 110], vm := .none },
  { cls := 6, slots := #[.null, .int 2, .int 0, .int 465, .int 587], vm := .none },
  { cls := 7, slots := #[.null, .int 0, .int 0, .null], vm := .none },
  { cls := 7, slots := #[.null, .int 1, .int 0, .null], vm := .none },
  { cls := 7, slots := #[.null, .int 2, .int 0, .null], vm := .none }]
def classes : Array Class := #[k0, k1, k2, k3, k4, k5, k6, k7, k8, k9, k10, k11, k12, k13, k14, k15, k16]
def interned : List (Array UInt16 × Addr) := []
def slotsUsed : Nat := 35
def theMethod : MethodId := ⟨1, 1⟩
def args0 : Array Value := #[.int 3, .int 1]
def aboutOver (below : List Frame) : State where
  vm := { classes := classes, interned := interned.toArray }
  heap := heap
  slotsUsed := slotsUsed
  threads := #[{ frames := .invoking theMethod args0 :: below }]
def below0 : List Frame := [.native { method := ⟨0, 0⟩, args := #[] }]
def about1 : State := aboutOver below0
def p0 : Program := .bare "" "" ""
def e0 : Env := launch0.env 0 0 0
theorem w_frames : about1.frames = Frame.invoking theMethod args0 :: below0 := rfl
set_option maxRecDepth 65536 in
theorem w_args : argsFit about1.vm theMethod args0 = true := by decide +kernel
set_option maxRecDepth 65536 in
theorem w_heap : heapFits about1 = true := by decide +kernel
set_option maxRecDepth 65536 in
theorem w_runnable : about1.curStatus? = some .runnable := by decide +kernel
set_option maxRecDepth 65536 in
theorem w_alone : about1.alone = true := by decide +kernel
set_option maxRecDepth 65536 in
theorem w_named : about1.methodNamed? x = some theMethod := by decide +kernel
set_option maxRecDepth 65536 in
theorem w_hears : about1.hears theMethod below0 = true := by decide +kernel
set_option maxRecDepth 65536 in
theorem w_ripe : about1.ripe theMethod args0 below0 = true := by decide +kernel
theorem w_running : about1.status = .running := rfl
set_option maxRecDepth 65536 in
theorem w_room : about1.hasRoom e0.platform room_1 = true :=
  launch0.hasRoom_least _ room_1 (by decide +kernel) (by decide +kernel) (by decide +kernel) (by decide +kernel) (by decide +kernel) (by decide +kernel)
theorem allAtoms_all (ts : List Jvm.Cond) (a : Array Jvm.Value) (st : Jvm.State) : (allAtoms ts).before a st = ts.all (fun c => c.before a st) := by
  induction ts with
  | nil => rfl
  | cons c t ih =>
    show (Jvm.Cond.and c (allAtoms t)).before a st = _
    rw [Jvm.Cond.before_and, ih, List.all_cons]
def words1 : List Jvm.Cond := Jvm.Cond.code x code maxLocals ret :: tables_1
/-- a 'code' word, met by the world's own term for the bytes: nothing is compared byte by byte -/
theorem code_word {y : MethodName} {bytes : ByteArray} {mx : Nat} {rt : Option FieldType} {a : Array Value} {s : State} {m : MethodId} {meth : Method} {c : Code} (h1 : s.methodNamed? y = some m) (h2 : s.vm.method? m = some meth) (h3 : meth.code = some c) (h4 : c.code = bytes)
    (h5 : (c.maxLocals == mx && c.exceptionTable.isEmpty && decide (c.maxStack ≤ mostOperands) && decide (meth.sig.returnType = rt) && !meth.locks && decide (parseMethodDescriptor y.desc = some meth.sig)) = true) : (Jvm.Cond.code y bytes mx rt).before a s = true := by
  simp only [Bool.and_eq_true, beq_iff_eq, Bool.not_eq_true', decide_eq_true_eq] at h5
  obtain ⟨⟨⟨⟨⟨g1, g2⟩, g3⟩, g4⟩, g5⟩, g6⟩ := h5
  simp [Cond.before, Cond.holds, Cond.value, h1, h2, h3, h4, g1, g2, g3, g4, g5, g6]
def isCode : Jvm.Cond → Bool
  | .code _ _ _ _ => true
  | _ => false
theorem all_split {L : List Jvm.Cond} {P : Jvm.Cond → Bool} (h1 : L.all (fun c => isCode c || P c) = true) (h2 : ∀ c ∈ L.filter isCode, P c = true) : L.all P = true := by
  refine List.all_eq_true.mpr fun c hc => ?_
  have h := List.all_eq_true.mp h1 c hc
  rcases Bool.eq_false_or_eq_true (isCode c) with hi | hi
  · exact h2 c (List.mem_filter.mpr ⟨hc, hi⟩)
  · simpa [hi] using h
set_option maxRecDepth 65536 in
theorem w_c0 : (Jvm.Cond.code x code maxLocals ret).before args0 about1 = true := code_word (m := ⟨1, 1⟩) (meth := k1m1) (c := k1c1) (by decide +kernel) rfl rfl rfl (by decide +kernel)
set_option maxRecDepth 65536 in
theorem w_c1 : (Jvm.Cond.code ({ cls := "com/example/mailhelm/mailhelm/model/MailProtocol", name := "defaultPort", desc := "(Lcom/example/mailhelm/mailhelm/model/Security;)I" } : Jvm.MethodName) prog_16_method_5_code (2 : Nat) (Option.some Jvm.ClassFile.FieldType.int)).before args0 about1 = true := code_word (m := ⟨6, 0⟩) (meth := k6m0) (c := k6c0) (by decide +kernel) rfl rfl rfl (by decide +kernel)
set_option maxRecDepth 65536 in
theorem w_c2 : (Jvm.Cond.code ({ cls := "java/util/Objects", name := "requireNonNull", desc := "(Ljava/lang/Object;Ljava/lang/String;)Ljava/lang/Object;" } : Jvm.MethodName) jdk_31_method_11_code (2 : Nat) (Option.some (Jvm.ClassFile.FieldType.object "java/lang/Object"))).before args0 about1 = true := code_word (m := ⟨11, 1⟩) (meth := k11m1) (c := k11c1) (by decide +kernel) rfl rfl rfl (by decide +kernel)
def codes1 : List Jvm.Cond := [Jvm.Cond.code x code maxLocals ret, Jvm.Cond.code ({ cls := "com/example/mailhelm/mailhelm/model/MailProtocol", name := "defaultPort", desc := "(Lcom/example/mailhelm/mailhelm/model/Security;)I" } : Jvm.MethodName) prog_16_method_5_code (2 : Nat) (Option.some Jvm.ClassFile.FieldType.int), Jvm.Cond.code ({ cls := "java/util/Objects", name := "requireNonNull", desc := "(Ljava/lang/Object;Ljava/lang/String;)Ljava/lang/Object;" } : Jvm.MethodName) jdk_31_method_11_code (2 : Nat) (Option.some (Jvm.ClassFile.FieldType.object "java/lang/Object"))]
set_option maxRecDepth 65536 in
theorem codes_eq : words1.filter isCode = codes1 := rfl
theorem w_codes : ∀ c ∈ words1.filter isCode, c.before args0 about1 = true := by
  rw [codes_eq]
  intro c hc
  simp only [codes1, List.mem_cons, List.not_mem_nil, or_false] at hc
  rcases hc with rfl | rfl | rfl
  · exact w_c0
  · exact w_c1
  · exact w_c2
set_option maxRecDepth 65536 in
theorem w_t1 : (words1.take 24).all (fun c => isCode c || c.before args0 about1) = true := by decide +kernel
set_option maxRecDepth 65536 in
theorem w_t2 : (words1.drop 24).all (fun c => isCode c || c.before args0 about1) = true := by decide +kernel
theorem w_tables : (allAtoms (Jvm.Cond.code x code maxLocals ret :: tables_1)).before args0 about1 = true := by
  rw [allAtoms_all]
  show words1.all (fun c => c.before args0 about1) = true
  refine all_split ?_ w_codes
  rw [← List.take_append_drop 24 words1, List.all_append, w_t1, w_t2]
  rfl
set_option maxRecDepth 65536 in
theorem w_case : (Jvm.Cond.and given_1 narrow_1).before args0 about1 = true := by decide +kernel
theorem w_applies : (headSpec (Jvm.Cond.code x code maxLocals ret :: tables_1) room_1).applies x e0.platform about1 = true :=
  (Spec.applies_iff w_frames).mpr ⟨w_running, w_runnable, w_alone, w_named, w_hears, w_ripe, w_room, w_tables⟩
theorem atStart : AtStart classFile x code maxLocals ret World_1 tables_1 room_1 Calls_1 rest_1 Pre_1 launch0 p0 e0 about1 theMethod args0 below0 :=
  ⟨lists_1, trivial, launch0.admits_env _ _ _, launch0.least_env, fairChoices_fair.cas, fairChoices_fair.clock, w_frames, w_args, w_heap, w_applies, trivial, trivial, w_case⟩
end start1
theorem witness_1 : WitnessClaimed_1 := ⟨start1.p0, start1.e0, start1.about1, start1.theMethod, start1.args0, start1.below0, start1.atStart⟩
end Jvm.Pilot.@@N@@
