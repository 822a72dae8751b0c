import JvmDerived
import JvmDerived.Pilot.@@N@@Statement
import JvmDerived.Pilot.@@N@@Code
set_option linter.unusedVariables false
set_option linter.unusedSimpArgs false
namespace Jvm.Pilot.@@N@@
open Jvm Jvm.ClassFile Sem Op Lib Jvm.Free Jvm.Stand Jvm.LawKit Jvm.RoadKit Bundle Jvm.Pilot.@@N@@.Jvm.D
section OwnKit
variable {p : Program} {l : Launch} {e : Env} {R : Room} {s : State} {m : MethodId} {args : Array Value} {below : List Frame} {meth : Method} {c : Code} {T : State} {locs : List Loc} {cells slots : Nat} {bytes : ByteArray} {Φ : State → Prop} {pc pc' : Nat} {Ls Ls' : Array Slot} {rest : List Value} {Z : State} {a0 : Array Value} {h : Heap}
/-- the run from A ends in a state with the property Φ -/
def GoP (p : Program) (e : Env) (below : List Frame) (Φ : State → Prop) (A : State) : Prop := ∃ t, Steps p.tables e below A t ∧ Φ t
theorem own_step {A B : State} (h : ∀ t, Steps p.tables e below B t → Steps p.tables e below A t) (g : GoP p e below Φ B) : GoP p e below Φ A := by
  obtain ⟨t, h1, h2⟩ := g; exact ⟨t, h t h1, h2⟩
theorem own_trans {A B : State} (h : Steps p.tables e below A B) (g : GoP p e below Φ B) : GoP p e below Φ A := by
  obtain ⟨t, h1, h2⟩ := g; exact ⟨t, h.trans h1, h2⟩
theorem own_w {L : List Jvm.Cond} (hw : ∀ d ∈ L, d.before a0 Z = true) (i : Nat) {d : Jvm.Cond} (q : L[i]? = some d) : d.before a0 Z = true := hw d (List.mem_of_getElem? q)

theorem own_iload (X : Stand p l e R s m args below meth c T locs cells slots) (hx : p.tables.exec = Jvm.exec) (hby : c.code = bytes) {k : Nat} {x : Int32} (hd : decode bytes pc = .ok (.iload k, 2)) (hl : Ls[k]? = some (.val (.int x))) (hp : pc + 2 = pc') (k : GoP p e below Φ (T.setTop (mkF m pc' Ls (.int x :: rest)))) : GoP p e below Φ (T.setTop (mkF m pc Ls (rest))) := by
  subst hp
  exact own_step (fun t q => XS.iload X.here hx rfl (hb hby hd) hl q) k
theorem own_iloadN (X : Stand p l e R s m args below meth c T locs cells slots) (hx : p.tables.exec = Jvm.exec) (hby : c.code = bytes) {k : Fin 4} {x : Int32} (hd : decode bytes pc = .ok (.iload_n k, 1)) (hl : Ls[k.val]? = some (.val (.int x))) (hp : pc + 1 = pc') (k : GoP p e below Φ (T.setTop (mkF m pc' Ls (.int x :: rest)))) : GoP p e below Φ (T.setTop (mkF m pc Ls (rest))) := by
  subst hp
  exact own_step (fun t q => XS.iloadN X.here hx rfl (hb hby hd) hl q) k
theorem own_istore (X : Stand p l e R s m args below meth c T locs cells slots) (hx : p.tables.exec = Jvm.exec) (hby : c.code = bytes) {k : Nat} {x : Int32} (hd : decode bytes pc = .ok (.istore k, 2)) (hl : storeLocals Ls k (.int x) = some Ls') (hp : pc + 2 = pc') (k : GoP p e below Φ (T.setTop (mkF m pc' Ls' (rest)))) : GoP p e below Φ (T.setTop (mkF m pc Ls (.int x :: rest))) := by
  subst hp
  exact own_step (fun t q => XS.istore X.here hx rfl (hb hby hd) rfl hl q) k
theorem own_istoreN (X : Stand p l e R s m args below meth c T locs cells slots) (hx : p.tables.exec = Jvm.exec) (hby : c.code = bytes) {k : Fin 4} {x : Int32} (hd : decode bytes pc = .ok (.istore_n k, 1)) (hl : storeLocals Ls k.val (.int x) = some Ls') (hp : pc + 1 = pc') (k : GoP p e below Φ (T.setTop (mkF m pc' Ls' (rest)))) : GoP p e below Φ (T.setTop (mkF m pc Ls (.int x :: rest))) := by
  subst hp
  exact own_step (fun t q => XS.istoreN X.here hx rfl (hb hby hd) rfl hl q) k
theorem own_lload (X : Stand p l e R s m args below meth c T locs cells slots) (hx : p.tables.exec = Jvm.exec) (hby : c.code = bytes) {k : Nat} {x : Int64} (hd : decode bytes pc = .ok (.lload k, 2)) (hl : Ls[k]? = some (.val (.long x))) (hp : pc + 2 = pc') (k : GoP p e below Φ (T.setTop (mkF m pc' Ls (.long x :: rest)))) : GoP p e below Φ (T.setTop (mkF m pc Ls (rest))) := by
  subst hp
  exact own_step (fun t q => XS.lload X.here hx rfl (hb hby hd) hl q) k
theorem own_lloadN (X : Stand p l e R s m args below meth c T locs cells slots) (hx : p.tables.exec = Jvm.exec) (hby : c.code = bytes) {k : Fin 4} {x : Int64} (hd : decode bytes pc = .ok (.lload_n k, 1)) (hl : Ls[k.val]? = some (.val (.long x))) (hp : pc + 1 = pc') (k : GoP p e below Φ (T.setTop (mkF m pc' Ls (.long x :: rest)))) : GoP p e below Φ (T.setTop (mkF m pc Ls (rest))) := by
  subst hp
  exact own_step (fun t q => XS.lloadN X.here hx rfl (hb hby hd) hl q) k
theorem own_lstore (X : Stand p l e R s m args below meth c T locs cells slots) (hx : p.tables.exec = Jvm.exec) (hby : c.code = bytes) {k : Nat} {x : Int64} (hd : decode bytes pc = .ok (.lstore k, 2)) (hl : storeLocals Ls k (.long x) = some Ls') (hp : pc + 2 = pc') (k : GoP p e below Φ (T.setTop (mkF m pc' Ls' (rest)))) : GoP p e below Φ (T.setTop (mkF m pc Ls (.long x :: rest))) := by
  subst hp
  exact own_step (fun t q => XS.lstore X.here hx rfl (hb hby hd) rfl hl q) k
theorem own_lstoreN (X : Stand p l e R s m args below meth c T locs cells slots) (hx : p.tables.exec = Jvm.exec) (hby : c.code = bytes) {k : Fin 4} {x : Int64} (hd : decode bytes pc = .ok (.lstore_n k, 1)) (hl : storeLocals Ls k.val (.long x) = some Ls') (hp : pc + 1 = pc') (k : GoP p e below Φ (T.setTop (mkF m pc' Ls' (rest)))) : GoP p e below Φ (T.setTop (mkF m pc Ls (.long x :: rest))) := by
  subst hp
  exact own_step (fun t q => XS.lstoreN X.here hx rfl (hb hby hd) rfl hl q) k
theorem own_aload (X : Stand p l e R s m args below meth c T locs cells slots) (hx : p.tables.exec = Jvm.exec) (hby : c.code = bytes) {k : Nat} {x : Value} (hd : decode bytes pc = .ok (.aload k, 2)) (hl : Ls[k]? = some (.val x)) (hr : x.isRef = true) (hp : pc + 2 = pc') (k : GoP p e below Φ (T.setTop (mkF m pc' Ls (x :: rest)))) : GoP p e below Φ (T.setTop (mkF m pc Ls (rest))) := by
  subst hp
  exact own_step (fun t q => XS.aload X.here hx rfl (hb hby hd) hl hr q) k
theorem own_aloadN (X : Stand p l e R s m args below meth c T locs cells slots) (hx : p.tables.exec = Jvm.exec) (hby : c.code = bytes) {k : Fin 4} {x : Value} (hd : decode bytes pc = .ok (.aload_n k, 1)) (hl : Ls[k.val]? = some (.val x)) (hr : x.isRef = true) (hp : pc + 1 = pc') (k : GoP p e below Φ (T.setTop (mkF m pc' Ls (x :: rest)))) : GoP p e below Φ (T.setTop (mkF m pc Ls (rest))) := by
  subst hp
  exact own_step (fun t q => XS.aloadN X.here hx rfl (hb hby hd) hl hr q) k
theorem own_astore (X : Stand p l e R s m args below meth c T locs cells slots) (hx : p.tables.exec = Jvm.exec) (hby : c.code = bytes) {k : Nat} {x : Value} (hd : decode bytes pc = .ok (.astore k, 2)) (hr : x.isRef = true) (hl : storeLocals Ls k x = some Ls') (hp : pc + 2 = pc') (k : GoP p e below Φ (T.setTop (mkF m pc' Ls' (rest)))) : GoP p e below Φ (T.setTop (mkF m pc Ls (x :: rest))) := by
  subst hp
  exact own_step (fun t q => XS.astore X.here hx rfl (hb hby hd) rfl hr hl q) k
theorem own_astoreN (X : Stand p l e R s m args below meth c T locs cells slots) (hx : p.tables.exec = Jvm.exec) (hby : c.code = bytes) {k : Fin 4} {x : Value} (hd : decode bytes pc = .ok (.astore_n k, 1)) (hr : x.isRef = true) (hl : storeLocals Ls k.val x = some Ls') (hp : pc + 1 = pc') (k : GoP p e below Φ (T.setTop (mkF m pc' Ls' (rest)))) : GoP p e below Φ (T.setTop (mkF m pc Ls (x :: rest))) := by
  subst hp
  exact own_step (fun t q => XS.astoreN X.here hx rfl (hb hby hd) rfl hr hl q) k
theorem own_iadd (X : Stand p l e R s m args below meth c T locs cells slots) (hx : p.tables.exec = Jvm.exec) (hby : c.code = bytes) {x y : Int32} (hd : decode bytes pc = .ok (.iadd, 1)) (hp : pc + 1 = pc') (k : GoP p e below Φ (T.setTop (mkF m pc' Ls (.int (x + y) :: rest)))) : GoP p e below Φ (T.setTop (mkF m pc Ls (.int y :: .int x :: rest))) := by
  subst hp
  exact own_step (fun t q => XS.iadd X.here hx rfl (hb hby hd) rfl q) k
theorem own_ladd (X : Stand p l e R s m args below meth c T locs cells slots) (hx : p.tables.exec = Jvm.exec) (hby : c.code = bytes) {x y : Int64} (hd : decode bytes pc = .ok (.ladd, 1)) (hp : pc + 1 = pc') (k : GoP p e below Φ (T.setTop (mkF m pc' Ls (.long (x + y) :: rest)))) : GoP p e below Φ (T.setTop (mkF m pc Ls (.long y :: .long x :: rest))) := by
  subst hp
  exact own_step (fun t q => XS.ladd X.here hx rfl (hb hby hd) rfl q) k
theorem own_isub (X : Stand p l e R s m args below meth c T locs cells slots) (hx : p.tables.exec = Jvm.exec) (hby : c.code = bytes) {x y : Int32} (hd : decode bytes pc = .ok (.isub, 1)) (hp : pc + 1 = pc') (k : GoP p e below Φ (T.setTop (mkF m pc' Ls (.int (x - y) :: rest)))) : GoP p e below Φ (T.setTop (mkF m pc Ls (.int y :: .int x :: rest))) := by
  subst hp
  exact own_step (fun t q => XS.isub X.here hx rfl (hb hby hd) rfl q) k
theorem own_lsub (X : Stand p l e R s m args below meth c T locs cells slots) (hx : p.tables.exec = Jvm.exec) (hby : c.code = bytes) {x y : Int64} (hd : decode bytes pc = .ok (.lsub, 1)) (hp : pc + 1 = pc') (k : GoP p e below Φ (T.setTop (mkF m pc' Ls (.long (x - y) :: rest)))) : GoP p e below Φ (T.setTop (mkF m pc Ls (.long y :: .long x :: rest))) := by
  subst hp
  exact own_step (fun t q => XS.lsub X.here hx rfl (hb hby hd) rfl q) k
theorem own_imul (X : Stand p l e R s m args below meth c T locs cells slots) (hx : p.tables.exec = Jvm.exec) (hby : c.code = bytes) {x y : Int32} (hd : decode bytes pc = .ok (.imul, 1)) (hp : pc + 1 = pc') (k : GoP p e below Φ (T.setTop (mkF m pc' Ls (.int (x * y) :: rest)))) : GoP p e below Φ (T.setTop (mkF m pc Ls (.int y :: .int x :: rest))) := by
  subst hp
  exact own_step (fun t q => XS.imul X.here hx rfl (hb hby hd) rfl q) k
theorem own_lmul (X : Stand p l e R s m args below meth c T locs cells slots) (hx : p.tables.exec = Jvm.exec) (hby : c.code = bytes) {x y : Int64} (hd : decode bytes pc = .ok (.lmul, 1)) (hp : pc + 1 = pc') (k : GoP p e below Φ (T.setTop (mkF m pc' Ls (.long (x * y) :: rest)))) : GoP p e below Φ (T.setTop (mkF m pc Ls (.long y :: .long x :: rest))) := by
  subst hp
  exact own_step (fun t q => XS.lmul X.here hx rfl (hb hby hd) rfl q) k
theorem own_iand (X : Stand p l e R s m args below meth c T locs cells slots) (hx : p.tables.exec = Jvm.exec) (hby : c.code = bytes) {x y : Int32} (hd : decode bytes pc = .ok (.iand, 1)) (hp : pc + 1 = pc') (k : GoP p e below Φ (T.setTop (mkF m pc' Ls (.int (x &&& y) :: rest)))) : GoP p e below Φ (T.setTop (mkF m pc Ls (.int y :: .int x :: rest))) := by
  subst hp
  exact own_step (fun t q => XS.iand X.here hx rfl (hb hby hd) rfl q) k
theorem own_land (X : Stand p l e R s m args below meth c T locs cells slots) (hx : p.tables.exec = Jvm.exec) (hby : c.code = bytes) {x y : Int64} (hd : decode bytes pc = .ok (.land, 1)) (hp : pc + 1 = pc') (k : GoP p e below Φ (T.setTop (mkF m pc' Ls (.long (x &&& y) :: rest)))) : GoP p e below Φ (T.setTop (mkF m pc Ls (.long y :: .long x :: rest))) := by
  subst hp
  exact own_step (fun t q => XS.land X.here hx rfl (hb hby hd) rfl q) k
theorem own_ior (X : Stand p l e R s m args below meth c T locs cells slots) (hx : p.tables.exec = Jvm.exec) (hby : c.code = bytes) {x y : Int32} (hd : decode bytes pc = .ok (.ior, 1)) (hp : pc + 1 = pc') (k : GoP p e below Φ (T.setTop (mkF m pc' Ls (.int (x ||| y) :: rest)))) : GoP p e below Φ (T.setTop (mkF m pc Ls (.int y :: .int x :: rest))) := by
  subst hp
  exact own_step (fun t q => XS.ior X.here hx rfl (hb hby hd) rfl q) k
theorem own_lor (X : Stand p l e R s m args below meth c T locs cells slots) (hx : p.tables.exec = Jvm.exec) (hby : c.code = bytes) {x y : Int64} (hd : decode bytes pc = .ok (.lor, 1)) (hp : pc + 1 = pc') (k : GoP p e below Φ (T.setTop (mkF m pc' Ls (.long (x ||| y) :: rest)))) : GoP p e below Φ (T.setTop (mkF m pc Ls (.long y :: .long x :: rest))) := by
  subst hp
  exact own_step (fun t q => XS.lor X.here hx rfl (hb hby hd) rfl q) k
theorem own_ixor (X : Stand p l e R s m args below meth c T locs cells slots) (hx : p.tables.exec = Jvm.exec) (hby : c.code = bytes) {x y : Int32} (hd : decode bytes pc = .ok (.ixor, 1)) (hp : pc + 1 = pc') (k : GoP p e below Φ (T.setTop (mkF m pc' Ls (.int (x ^^^ y) :: rest)))) : GoP p e below Φ (T.setTop (mkF m pc Ls (.int y :: .int x :: rest))) := by
  subst hp
  exact own_step (fun t q => XS.ixor X.here hx rfl (hb hby hd) rfl q) k
theorem own_lxor (X : Stand p l e R s m args below meth c T locs cells slots) (hx : p.tables.exec = Jvm.exec) (hby : c.code = bytes) {x y : Int64} (hd : decode bytes pc = .ok (.lxor, 1)) (hp : pc + 1 = pc') (k : GoP p e below Φ (T.setTop (mkF m pc' Ls (.long (x ^^^ y) :: rest)))) : GoP p e below Φ (T.setTop (mkF m pc Ls (.long y :: .long x :: rest))) := by
  subst hp
  exact own_step (fun t q => XS.lxor X.here hx rfl (hb hby hd) rfl q) k
theorem own_ishl (X : Stand p l e R s m args below meth c T locs cells slots) (hx : p.tables.exec = Jvm.exec) (hby : c.code = bytes) {x : Int32} {y : Int32} (hd : decode bytes pc = .ok (.ishl, 1)) (hp : pc + 1 = pc') (k : GoP p e below Φ (T.setTop (mkF m pc' Ls (.int (x <<< (y &&& 31)) :: rest)))) : GoP p e below Φ (T.setTop (mkF m pc Ls (.int y :: .int x :: rest))) := by
  subst hp
  exact own_step (fun t q => XS.ishl X.here hx rfl (hb hby hd) rfl q) k
theorem own_ishr (X : Stand p l e R s m args below meth c T locs cells slots) (hx : p.tables.exec = Jvm.exec) (hby : c.code = bytes) {x : Int32} {y : Int32} (hd : decode bytes pc = .ok (.ishr, 1)) (hp : pc + 1 = pc') (k : GoP p e below Φ (T.setTop (mkF m pc' Ls (.int (x >>> (y &&& 31)) :: rest)))) : GoP p e below Φ (T.setTop (mkF m pc Ls (.int y :: .int x :: rest))) := by
  subst hp
  exact own_step (fun t q => XS.ishr X.here hx rfl (hb hby hd) rfl q) k
theorem own_iushr (X : Stand p l e R s m args below meth c T locs cells slots) (hx : p.tables.exec = Jvm.exec) (hby : c.code = bytes) {x : Int32} {y : Int32} (hd : decode bytes pc = .ok (.iushr, 1)) (hp : pc + 1 = pc') (k : GoP p e below Φ (T.setTop (mkF m pc' Ls (.int ((x.toUInt32 >>> (y &&& 31).toUInt32).toInt32) :: rest)))) : GoP p e below Φ (T.setTop (mkF m pc Ls (.int y :: .int x :: rest))) := by
  subst hp
  exact own_step (fun t q => XS.iushr X.here hx rfl (hb hby hd) rfl q) k
theorem own_lshl (X : Stand p l e R s m args below meth c T locs cells slots) (hx : p.tables.exec = Jvm.exec) (hby : c.code = bytes) {x : Int64} {y : Int32} (hd : decode bytes pc = .ok (.lshl, 1)) (hp : pc + 1 = pc') (k : GoP p e below Φ (T.setTop (mkF m pc' Ls (.long (x <<< (y &&& 0x3f).toInt64) :: rest)))) : GoP p e below Φ (T.setTop (mkF m pc Ls (.int y :: .long x :: rest))) := by
  subst hp
  exact own_step (fun t q => XS.lshl X.here hx rfl (hb hby hd) rfl q) k
theorem own_lshr (X : Stand p l e R s m args below meth c T locs cells slots) (hx : p.tables.exec = Jvm.exec) (hby : c.code = bytes) {x : Int64} {y : Int32} (hd : decode bytes pc = .ok (.lshr, 1)) (hp : pc + 1 = pc') (k : GoP p e below Φ (T.setTop (mkF m pc' Ls (.long (x >>> (y &&& 0x3f).toInt64) :: rest)))) : GoP p e below Φ (T.setTop (mkF m pc Ls (.int y :: .long x :: rest))) := by
  subst hp
  exact own_step (fun t q => XS.lshr X.here hx rfl (hb hby hd) rfl q) k
theorem own_lushr (X : Stand p l e R s m args below meth c T locs cells slots) (hx : p.tables.exec = Jvm.exec) (hby : c.code = bytes) {x : Int64} {y : Int32} (hd : decode bytes pc = .ok (.lushr, 1)) (hp : pc + 1 = pc') (k : GoP p e below Φ (T.setTop (mkF m pc' Ls (.long ((x.toUInt64 >>> (y &&& 0x3f).toInt64.toUInt64).toInt64) :: rest)))) : GoP p e below Φ (T.setTop (mkF m pc Ls (.int y :: .long x :: rest))) := by
  subst hp
  exact own_step (fun t q => XS.lushr X.here hx rfl (hb hby hd) rfl q) k
theorem own_ineg (X : Stand p l e R s m args below meth c T locs cells slots) (hx : p.tables.exec = Jvm.exec) (hby : c.code = bytes) {x : Int32} (hd : decode bytes pc = .ok (.ineg, 1)) (hp : pc + 1 = pc') (k : GoP p e below Φ (T.setTop (mkF m pc' Ls (.int (-x) :: rest)))) : GoP p e below Φ (T.setTop (mkF m pc Ls (.int x :: rest))) := by
  subst hp
  exact own_step (fun t q => XS.ineg X.here hx rfl (hb hby hd) rfl q) k
theorem own_lneg (X : Stand p l e R s m args below meth c T locs cells slots) (hx : p.tables.exec = Jvm.exec) (hby : c.code = bytes) {x : Int64} (hd : decode bytes pc = .ok (.lneg, 1)) (hp : pc + 1 = pc') (k : GoP p e below Φ (T.setTop (mkF m pc' Ls (.long (-x) :: rest)))) : GoP p e below Φ (T.setTop (mkF m pc Ls (.long x :: rest))) := by
  subst hp
  exact own_step (fun t q => XS.lneg X.here hx rfl (hb hby hd) rfl q) k
theorem own_i2l (X : Stand p l e R s m args below meth c T locs cells slots) (hx : p.tables.exec = Jvm.exec) (hby : c.code = bytes) {x : Int32} (hd : decode bytes pc = .ok (.i2l, 1)) (hp : pc + 1 = pc') (k : GoP p e below Φ (T.setTop (mkF m pc' Ls (.long (x.toInt64) :: rest)))) : GoP p e below Φ (T.setTop (mkF m pc Ls (.int x :: rest))) := by
  subst hp
  exact own_step (fun t q => XS.i2l X.here hx rfl (hb hby hd) rfl q) k
theorem own_l2i (X : Stand p l e R s m args below meth c T locs cells slots) (hx : p.tables.exec = Jvm.exec) (hby : c.code = bytes) {x : Int64} (hd : decode bytes pc = .ok (.l2i, 1)) (hp : pc + 1 = pc') (k : GoP p e below Φ (T.setTop (mkF m pc' Ls (.int (x.toInt32) :: rest)))) : GoP p e below Φ (T.setTop (mkF m pc Ls (.long x :: rest))) := by
  subst hp
  exact own_step (fun t q => XS.l2i X.here hx rfl (hb hby hd) rfl q) k
theorem own_i2b (X : Stand p l e R s m args below meth c T locs cells slots) (hx : p.tables.exec = Jvm.exec) (hby : c.code = bytes) {x : Int32} (hd : decode bytes pc = .ok (.i2b, 1)) (hp : pc + 1 = pc') (k : GoP p e below Φ (T.setTop (mkF m pc' Ls (.int (x.toInt8.toInt32) :: rest)))) : GoP p e below Φ (T.setTop (mkF m pc Ls (.int x :: rest))) := by
  subst hp
  exact own_step (fun t q => XS.i2b X.here hx rfl (hb hby hd) rfl q) k
theorem own_i2s (X : Stand p l e R s m args below meth c T locs cells slots) (hx : p.tables.exec = Jvm.exec) (hby : c.code = bytes) {x : Int32} (hd : decode bytes pc = .ok (.i2s, 1)) (hp : pc + 1 = pc') (k : GoP p e below Φ (T.setTop (mkF m pc' Ls (.int (x.toInt16.toInt32) :: rest)))) : GoP p e below Φ (T.setTop (mkF m pc Ls (.int x :: rest))) := by
  subst hp
  exact own_step (fun t q => XS.i2s X.here hx rfl (hb hby hd) rfl q) k
theorem own_i2c (X : Stand p l e R s m args below meth c T locs cells slots) (hx : p.tables.exec = Jvm.exec) (hby : c.code = bytes) {x : Int32} (hd : decode bytes pc = .ok (.i2c, 1)) (hp : pc + 1 = pc') (k : GoP p e below Φ (T.setTop (mkF m pc' Ls (.int (x.toUInt32.toUInt16.toUInt32.toInt32) :: rest)))) : GoP p e below Φ (T.setTop (mkF m pc Ls (.int x :: rest))) := by
  subst hp
  exact own_step (fun t q => XS.i2c X.here hx rfl (hb hby hd) rfl q) k
theorem own_irem (X : Stand p l e R s m args below meth c T locs cells slots) (hx : p.tables.exec = Jvm.exec) (hby : c.code = bytes) {x y : Int32} (hd : decode bytes pc = .ok (.irem, 1)) (hy : y ≠ 0) (hp : pc + 1 = pc') (k : GoP p e below Φ (T.setTop (mkF m pc' Ls (.int (x % y) :: rest)))) : GoP p e below Φ (T.setTop (mkF m pc Ls (.int y :: .int x :: rest))) := by
  subst hp
  exact own_step (fun t q => iremM X hx rfl (hb hby hd) rfl hy q) k
theorem own_idiv (X : Stand p l e R s m args below meth c T locs cells slots) (hx : p.tables.exec = Jvm.exec) (hby : c.code = bytes) {x y : Int32} (hd : decode bytes pc = .ok (.idiv, 1)) (hy : y ≠ 0) (hp : pc + 1 = pc') (k : GoP p e below Φ (T.setTop (mkF m pc' Ls (.int (x / y) :: rest)))) : GoP p e below Φ (T.setTop (mkF m pc Ls (.int y :: .int x :: rest))) := by
  subst hp
  exact own_step (fun t q => XS.idiv X.here hx rfl (hb hby hd) rfl hy q) k
theorem own_ldiv (X : Stand p l e R s m args below meth c T locs cells slots) (hx : p.tables.exec = Jvm.exec) (hby : c.code = bytes) {x y : Int64} (hd : decode bytes pc = .ok (.ldiv, 1)) (hy : y ≠ 0) (hp : pc + 1 = pc') (k : GoP p e below Φ (T.setTop (mkF m pc' Ls (.long (x / y) :: rest)))) : GoP p e below Φ (T.setTop (mkF m pc Ls (.long y :: .long x :: rest))) := by
  subst hp
  exact own_step (fun t q => XS.ldiv X.here hx rfl (hb hby hd) rfl hy q) k
theorem own_lrem (X : Stand p l e R s m args below meth c T locs cells slots) (hx : p.tables.exec = Jvm.exec) (hby : c.code = bytes) {x y : Int64} (hd : decode bytes pc = .ok (.lrem, 1)) (hy : y ≠ 0) (hp : pc + 1 = pc') (k : GoP p e below Φ (T.setTop (mkF m pc' Ls (.long (x % y) :: rest)))) : GoP p e below Φ (T.setTop (mkF m pc Ls (.long y :: .long x :: rest))) := by
  subst hp
  rw [← lrem_mod] at k
  exact own_step (fun t q => XS.lrem X.here hx rfl (hb hby hd) rfl hy q) k
theorem own_lcmp (X : Stand p l e R s m args below meth c T locs cells slots) (hx : p.tables.exec = Jvm.exec) (hby : c.code = bytes) {x y : Int64} (hd : decode bytes pc = .ok (.lcmp, 1)) (hp : pc + 1 = pc') (k : GoP p e below Φ (T.setTop (mkF m pc' Ls (.int (lcmpW x y) :: rest)))) : GoP p e below Φ (T.setTop (mkF m pc Ls (.long y :: .long x :: rest))) := by
  subst hp
  exact own_step (fun t q => XS.lcmp X.here hx rfl (hb hby hd) rfl q) k
theorem own_iconst (X : Stand p l e R s m args below meth c T locs cells slots) (hx : p.tables.exec = Jvm.exec) (hby : c.code = bytes) {i : Int} {v : Int32} (hd : decode bytes pc = .ok (.iconst i, 1)) (hv : Int32.ofInt i = v) (hp : pc + 1 = pc') (k : GoP p e below Φ (T.setTop (mkF m pc' Ls (.int v :: rest)))) : GoP p e below Φ (T.setTop (mkF m pc Ls (rest))) := by
  subst hp hv
  exact own_step (fun t q => XS.iconst X.here hx rfl (hb hby hd) q) k
theorem own_bipush (X : Stand p l e R s m args below meth c T locs cells slots) (hx : p.tables.exec = Jvm.exec) (hby : c.code = bytes) {i : Int} {v : Int32} (hd : decode bytes pc = .ok (.bipush i, 2)) (hv : (Int8.ofInt i).toInt32 = v) (hp : pc + 2 = pc') (k : GoP p e below Φ (T.setTop (mkF m pc' Ls (.int v :: rest)))) : GoP p e below Φ (T.setTop (mkF m pc Ls (rest))) := by
  subst hp hv
  exact own_step (fun t q => XS.bipush X.here hx rfl (hb hby hd) q) k
theorem own_sipush (X : Stand p l e R s m args below meth c T locs cells slots) (hx : p.tables.exec = Jvm.exec) (hby : c.code = bytes) {i : Int} {v : Int32} (hd : decode bytes pc = .ok (.sipush i, 3)) (hv : (Int16.ofInt i).toInt32 = v) (hp : pc + 3 = pc') (k : GoP p e below Φ (T.setTop (mkF m pc' Ls (.int v :: rest)))) : GoP p e below Φ (T.setTop (mkF m pc Ls (rest))) := by
  subst hp hv
  exact own_step (fun t q => XS.sipush X.here hx rfl (hb hby hd) q) k
theorem own_lconst (X : Stand p l e R s m args below meth c T locs cells slots) (hx : p.tables.exec = Jvm.exec) (hby : c.code = bytes) {i : Fin 2} {v : Int64} (hd : decode bytes pc = .ok (.lconst i, 1)) (hv : Int64.ofNat i = v) (hp : pc + 1 = pc') (k : GoP p e below Φ (T.setTop (mkF m pc' Ls (.long v :: rest)))) : GoP p e below Φ (T.setTop (mkF m pc Ls (rest))) := by
  subst hp hv
  exact own_step (fun t q => XS.lconst X.here hx rfl (hb hby hd) q) k
theorem own_aconst_null (X : Stand p l e R s m args below meth c T locs cells slots) (hx : p.tables.exec = Jvm.exec) (hby : c.code = bytes) (hd : decode bytes pc = .ok (.aconst_null, 1)) (hp : pc + 1 = pc') (k : GoP p e below Φ (T.setTop (mkF m pc' Ls (.null :: rest)))) : GoP p e below Φ (T.setTop (mkF m pc Ls (rest))) := by
  subst hp
  exact own_step (fun t q => XS.aconstNull X.here hx rfl (hb hby hd) q) k
theorem own_dup (X : Stand p l e R s m args below meth c T locs cells slots) (hx : p.tables.exec = Jvm.exec) (hby : c.code = bytes) {x : Value} (hd : decode bytes pc = .ok (.dup, 1)) (hc : x.category = 1) (hp : pc + 1 = pc') (k : GoP p e below Φ (T.setTop (mkF m pc' Ls (x :: x :: rest)))) : GoP p e below Φ (T.setTop (mkF m pc Ls (x :: rest))) := by
  subst hp
  exact own_step (fun t q => XS.dup X.here hx rfl (hb hby hd) rfl hc q) k
theorem own_pop (X : Stand p l e R s m args below meth c T locs cells slots) (hx : p.tables.exec = Jvm.exec) (hby : c.code = bytes) {x : Value} (hd : decode bytes pc = .ok (.pop, 1)) (hc : x.category = 1) (hp : pc + 1 = pc') (k : GoP p e below Φ (T.setTop (mkF m pc' Ls (rest)))) : GoP p e below Φ (T.setTop (mkF m pc Ls (x :: rest))) := by
  subst hp
  exact own_step (fun t q => XS.pop X.here hx rfl (hb hby hd) rfl hc q) k
theorem own_dup_x1 (X : Stand p l e R s m args below meth c T locs cells slots) (hx : p.tables.exec = Jvm.exec) (hby : c.code = bytes) {x y : Value} (hd : decode bytes pc = .ok (.dup_x1, 1)) (hc : x.category = 1) (hc' : y.category = 1) (hp : pc + 1 = pc') (k : GoP p e below Φ (T.setTop (mkF m pc' Ls (x :: y :: x :: rest)))) : GoP p e below Φ (T.setTop (mkF m pc Ls (x :: y :: rest))) := by
  subst hp
  exact own_step (fun t q => XS.dupX1 X.here hx rfl (hb hby hd) rfl hc hc' q) k
theorem own_dup2 (X : Stand p l e R s m args below meth c T locs cells slots) (hx : p.tables.exec = Jvm.exec) (hby : c.code = bytes) {x y : Value} (hd : decode bytes pc = .ok (.dup2, 1)) (hc : x.category = 1) (hc' : y.category = 1) (hp : pc + 1 = pc') (k : GoP p e below Φ (T.setTop (mkF m pc' Ls (x :: y :: x :: y :: rest)))) : GoP p e below Φ (T.setTop (mkF m pc Ls (x :: y :: rest))) := by
  subst hp
  exact own_step (fun t q => XT.dup2 X.here hx rfl (hb hby hd) rfl hc hc' q) k
theorem own_dup2L (X : Stand p l e R s m args below meth c T locs cells slots) (hx : p.tables.exec = Jvm.exec) (hby : c.code = bytes) {x : Int64} (hd : decode bytes pc = .ok (.dup2, 1)) (hp : pc + 1 = pc') (k : GoP p e below Φ (T.setTop (mkF m pc' Ls (.long x :: .long x :: rest)))) : GoP p e below Φ (T.setTop (mkF m pc Ls (.long x :: rest))) := by
  subst hp
  exact own_step (fun t q => XT.dup2L X.here hx rfl (hb hby hd) rfl q) k
theorem own_iinc (X : Stand p l e R s m args below meth c T locs cells slots) (hx : p.tables.exec = Jvm.exec) (hby : c.code = bytes) {k0 : Nat} {i : Int} {x v : Int32} (hd : decode bytes pc = .ok (.iinc k0 i, 3)) (hl : Ls[k0]? = some (.val (.int x))) (hv : Int32.ofInt i = v) (hl' : storeLocals Ls k0 (.int (x + v)) = some Ls') (hp : pc + 3 = pc') (k : GoP p e below Φ (T.setTop (mkF m pc' Ls' (rest)))) : GoP p e below Φ (T.setTop (mkF m pc Ls (rest))) := by
  subst hp hv
  exact own_step (fun t q => XS.iinc X.here hx rfl (hb hby hd) hl hl' q) k
theorem own_goto (X : Stand p l e R s m args below meth c T locs cells slots) (hx : p.tables.exec = Jvm.exec) (hby : c.code = bytes) {o : Int} (hd : decode bytes pc = .ok (.goto o, 3)) (ho : 0 ≤ (pc : Int) + o) (hp : ((pc : Int) + o).toNat = pc') (k : GoP p e below Φ (T.setTop (mkF m pc' Ls (rest)))) : GoP p e below Φ (T.setTop (mkF m pc Ls (rest))) :=
  own_step (fun t q => XS.goto X.here hx rfl (pc0 := pc) (pc' := pc') rfl (hb hby hd) ho hp q) k
theorem own_ifY (X : Stand p l e R s m args below meth c T locs cells slots) (hx : p.tables.exec = Jvm.exec) (hby : c.code = bytes) {cd : ClassFile.Cond} {o : Int} {x : Int32} (hd : decode bytes pc = .ok (.ifCond cd o, 3)) (hc : ifCond.holds cd x = true) (ho : 0 ≤ (pc : Int) + o) (hp : ((pc : Int) + o).toNat = pc') (k : GoP p e below Φ (T.setTop (mkF m pc' Ls (rest)))) : GoP p e below Φ (T.setTop (mkF m pc Ls (.int x :: rest))) :=
  own_step (fun t q => XS.ifYes X.here hx rfl (pc0 := pc) (pc' := pc') rfl (hb hby hd) rfl hc ho hp q) k
theorem own_ifN (X : Stand p l e R s m args below meth c T locs cells slots) (hx : p.tables.exec = Jvm.exec) (hby : c.code = bytes) {cd : ClassFile.Cond} {o : Int} {x : Int32} (hd : decode bytes pc = .ok (.ifCond cd o, 3)) (hc : ifCond.holds cd x = false) (hp : pc + 3 = pc') (k : GoP p e below Φ (T.setTop (mkF m pc' Ls (rest)))) : GoP p e below Φ (T.setTop (mkF m pc Ls (.int x :: rest))) := by
  subst hp
  exact own_step (fun t q => XS.ifNo X.here hx rfl (hb hby hd) rfl hc q) k
theorem own_icmpY (X : Stand p l e R s m args below meth c T locs cells slots) (hx : p.tables.exec = Jvm.exec) (hby : c.code = bytes) {cd : ClassFile.Cond} {o : Int} {x y : Int32} (hd : decode bytes pc = .ok (.if_icmp cd o, 3)) (hc : if_icmp.holds cd x y = true) (ho : 0 ≤ (pc : Int) + o) (hp : ((pc : Int) + o).toNat = pc') (k : GoP p e below Φ (T.setTop (mkF m pc' Ls (rest)))) : GoP p e below Φ (T.setTop (mkF m pc Ls (.int y :: .int x :: rest))) :=
  own_step (fun t q => XS.icmpYes X.here hx rfl (pc0 := pc) (pc' := pc') rfl (hb hby hd) rfl hc ho hp q) k
theorem own_icmpN (X : Stand p l e R s m args below meth c T locs cells slots) (hx : p.tables.exec = Jvm.exec) (hby : c.code = bytes) {cd : ClassFile.Cond} {o : Int} {x y : Int32} (hd : decode bytes pc = .ok (.if_icmp cd o, 3)) (hc : if_icmp.holds cd x y = false) (hp : pc + 3 = pc') (k : GoP p e below Φ (T.setTop (mkF m pc' Ls (rest)))) : GoP p e below Φ (T.setTop (mkF m pc Ls (.int y :: .int x :: rest))) := by
  subst hp
  exact own_step (fun t q => XS.icmpNo X.here hx rfl (hb hby hd) rfl hc q) k
theorem own_ifnullY (X : Stand p l e R s m args below meth c T locs cells slots) (hx : p.tables.exec = Jvm.exec) (hby : c.code = bytes) {o : Int} (hd : decode bytes pc = .ok (.ifnull o, 3)) (ho : 0 ≤ (pc : Int) + o) (hp : ((pc : Int) + o).toNat = pc') (k : GoP p e below Φ (T.setTop (mkF m pc' Ls (rest)))) : GoP p e below Φ (T.setTop (mkF m pc Ls (.null :: rest))) :=
  own_step (fun t q => XS.ifnullYes X.here hx rfl (pc0 := pc) (pc' := pc') rfl (hb hby hd) rfl ho hp q) k
theorem own_ifnullN (X : Stand p l e R s m args below meth c T locs cells slots) (hx : p.tables.exec = Jvm.exec) (hby : c.code = bytes) {o : Int} {b : Addr} (hd : decode bytes pc = .ok (.ifnull o, 3)) (hp : pc + 3 = pc') (k : GoP p e below Φ (T.setTop (mkF m pc' Ls (rest)))) : GoP p e below Φ (T.setTop (mkF m pc Ls (.ref b :: rest))) := by
  subst hp
  exact own_step (fun t q => XS.ifnullNo X.here hx rfl (hb hby hd) rfl q) k
theorem own_ifnonnullY (X : Stand p l e R s m args below meth c T locs cells slots) (hx : p.tables.exec = Jvm.exec) (hby : c.code = bytes) {b : Addr} {o : Int} (hd : decode bytes pc = .ok (.ifnonnull o, 3)) (ho : 0 ≤ (pc : Int) + o) (hp : ((pc : Int) + o).toNat = pc') (k : GoP p e below Φ (T.setTop (mkF m pc' Ls (rest)))) : GoP p e below Φ (T.setTop (mkF m pc Ls (.ref b :: rest))) :=
  own_step (fun t q => XS.ifnonnullYes X.here hx rfl (pc0 := pc) (pc' := pc') rfl (hb hby hd) rfl ho hp q) k
theorem own_ifnonnullN (X : Stand p l e R s m args below meth c T locs cells slots) (hx : p.tables.exec = Jvm.exec) (hby : c.code = bytes) {o : Int} (hd : decode bytes pc = .ok (.ifnonnull o, 3)) (hp : pc + 3 = pc') (k : GoP p e below Φ (T.setTop (mkF m pc' Ls (rest)))) : GoP p e below Φ (T.setTop (mkF m pc Ls (.null :: rest))) := by
  subst hp
  exact own_step (fun t q => XS.ifnonnullNo X.here hx rfl (hb hby hd) rfl q) k
theorem own_acmp (X : Stand p l e R s m args below meth c T locs cells slots) (hx : p.tables.exec = Jvm.exec) (hby : c.code = bytes) {cd : ACond} {x y : Value} {o : Int} (hd : decode bytes pc = .ok (.if_acmp cd o, 3)) (h1 : x.isRef = true) (h2 : y.isRef = true) {same : Bool} (hq : decide (x = y) = same) (ho : 0 ≤ (pc : Int) + o) (hp : pc' = if acV cd same = true then ((pc : Int) + o).toNat else pc + 3) (k : GoP p e below Φ (T.setTop (mkF m pc' Ls (rest)))) : GoP p e below Φ (T.setTop (mkF m pc Ls (y :: x :: rest))) :=
  own_step (fun t q => Jvm.RoadKit.acmp (g := mkF m pc Ls (y :: x :: rest)) X hx rfl h1 h2 (pc0 := pc) (pc' := pc') (same := same) rfl (hb hby hd) rfl hq ho hp q) k
theorem own_ldcI (X : Stand p l e R s m args below meth c T locs cells slots) (hx : p.tables.exec = Jvm.exec) (hby : c.code = bytes) (hZ : Z.Warmed39 s.vm) {own : String} {i : Nat} {v : Int32} (hown : s.vm.findClass own = some m.cls) (w : (Jvm.Cond.constant own i v).before a0 Z = true) (hd : decode bytes pc = .ok (.ldc i, 2)) (hp : pc + 2 = pc') (k : GoP p e below Φ (T.setTop (mkF m pc' Ls (.int v :: rest)))) : GoP p e below Φ (T.setTop (mkF m pc Ls (rest))) := by
  subst hp
  exact own_step (fun t q => Jvm.Stand.ldcI X hx hown (mvT hZ w) rfl (hb hby hd) q) k
theorem own_ldcWI (X : Stand p l e R s m args below meth c T locs cells slots) (hx : p.tables.exec = Jvm.exec) (hby : c.code = bytes) (hZ : Z.Warmed39 s.vm) {own : String} {i : Nat} {v : Int32} (hown : s.vm.findClass own = some m.cls) (w : (Jvm.Cond.constant own i v).before a0 Z = true) (hd : decode bytes pc = .ok (.ldc_w i, 3)) (hp : pc + 3 = pc') (k : GoP p e below Φ (T.setTop (mkF m pc' Ls (.int v :: rest)))) : GoP p e below Φ (T.setTop (mkF m pc Ls (rest))) := by
  subst hp
  exact own_step (fun t q => Jvm.Stand.ldcWI X hx hown (mvT hZ w) rfl (hb hby hd) q) k
theorem own_ldc2J (X : Stand p l e R s m args below meth c T locs cells slots) (hx : p.tables.exec = Jvm.exec) (hby : c.code = bytes) (hZ : Z.Warmed39 s.vm) {own : String} {i : Nat} {v : Int64} (hown : s.vm.findClass own = some m.cls) (w : (Jvm.Cond.constantLong own i v).before a0 Z = true) (hd : decode bytes pc = .ok (.ldc2_w i, 3)) (hp : pc + 3 = pc') (k : GoP p e below Φ (T.setTop (mkF m pc' Ls (.long v :: rest)))) : GoP p e below Φ (T.setTop (mkF m pc Ls (rest))) := by
  subst hp
  exact own_step (fun t q => Jvm.Stand.ldc2J X hx hown (mvT hZ w) rfl (hb hby hd) q) k
/-- a contract of one body at one heap: with these arguments it returns, and Q says what it leaves -/
def Con (l : Launch) (Z : State) (y : MethodName) (bytes : ByteArray) (maxL : Nat) (ret : Option FieldType) (ws : List Jvm.Cond) (rm : Room) (as' : Array Value) (h0 : Heap) (Q : Option Value → Heap → List Loc → Prop) : Prop :=
  MetFree l y (head1 (Jvm.Cond.code y bytes maxL ret :: ws) rm) (fun a U => a = as' ∧ Z.Warmed39 U.vm ∧ U.heap = h0) (fun _ _ _ _ _ => True) (fun _ U o U' => ∃ v L, o = .returned v ∧ Q v U'.heap L ∧ FrameEnd U o U' L rm.cells rm.slots)
/-- where a body may end: at a state that stands, with a value that Q takes -/
def Fin (p : Program) (l : Launch) (e : Env) (R : Room) (s : State) (m : MethodId) (args : Array Value) (below : List Frame) (meth : Method) (c : Code) (Q : Option Value → Heap → List Loc → Prop) (Φ : State → Prop) : Prop :=
  ∀ (T : State) (locs : List Loc) (cells slots : Nat) (v : Option Value), Stand p l e R s m args below meth c T locs cells slots → (meth.sig.returnType = none → v = none) → Q v T.heap locs → cells ≤ R.cells → slots ≤ R.slots →
    ∃ fs, (∀ (f : JFrame) (acts : List Action), f.method = m → f.locked = none → f.entered = [] → (doReturn e (T.setTop f) acts v).1 = T.setFrames fs) ∧ Φ (T.setFrames fs)
theorem Con.of {y : MethodName} {maxL : Nat} {ret : Option FieldType} {ws : List Jvm.Cond} {rm : Room} {as' : Array Value} {h0 : Heap} {Q : Option Value → Heap → List Loc → Prop} (hpn : plainName y.cls = true)
    (body : ∀ (p : Program) (e : Env) (s : State) (m : MethodId) (below : List Frame) (meth : Method) (c : Code) (T : State), Stand p l e rm s m as' below meth c T [] 0 0 → p.tables.exec = Jvm.exec → c.code = bytes → c.maxLocals = maxL → s.vm.findClass y.cls = some m.cls → meth.name = y.name → meth.sig.returnType = ret → T.heap = h0 → Z.Warmed39 s.vm → s.heap = h0 →
      ∀ Φ : State → Prop, Fin p l e rm s m as' below meth c Q Φ → GoP p e below Φ (T.setTop (entryFrame m as' maxL))) : Con l Z y bytes maxL ret ws rm as' h0 Q := by
  refine MetFree.of_bodySF (plainFor_of_name hpn) hisR ?_
  intro p e s m args below meth c s₁ Bd hml0 hP hK
  obtain ⟨rfl, hZ, hh⟩ := hP
  have e0 : s₁.heap = h0 := by rw [← hh, Bd.state]; rfl
  have hlk : meth.locks = false := Bd.notSynchronized
  obtain ⟨t, h1, o, h2⟩ := body p e s m below meth c s₁ (Stand.of_body Bd) Bd.exec Bd.bytes hml0 (findClass_of_methodNamed Bd.named) (name_of_methodNamed Bd.named Bd.method).1 Bd.returns e0 hZ hh
    (fun t => ∃ o, t.status = .running ∧ Ended t below o ∧ ∃ v L, o = .returned v ∧ Q v t.heap L ∧ FrameEnd s o t L rm.cells rm.slots)
    (fun T locs cells slots v X hv hQ hc hs => by
      obtain ⟨fs, hr, hrun, hended, hW, hsame⟩ := X.leave (v := v) hv hlk
      exact ⟨fs, hr, _, hrun, hended, v, locs, rfl, hQ, ⟨_, rfl⟩, hW, hsame.mono hc hs⟩)
  exact ⟨t, o, h1, h2⟩
theorem own_retV (X : Stand p l e R s m args below meth c T locs cells slots) (hx : p.tables.exec = Jvm.exec) (hby : c.code = bytes) {Q : Option Value → Heap → List Loc → Prop} (fin : Fin p l e R s m args below meth c Q Φ) {t : FieldType} (hret : meth.sig.returnType = some t) {w : Value} {i : Instr} (hn : narrow t w = w)
    (hi : (i = .ireturn ∧ (t = .int ∨ t = .boolean ∨ t = .byte ∨ t = .char ∨ t = .short) ∧ ∃ z, w = .int z) ∨ (i = .lreturn ∧ t = .long ∧ ∃ z, w = .long z) ∨ (i = .dreturn ∧ t = .double ∧ ∃ z, w = .double z) ∨ (i = .freturn ∧ t = .float ∧ ∃ z, w = .float z) ∨ (i = .areturn ∧ t.isReference = true ∧ w.isRef = true))
    (hd : decode bytes pc = .ok (i, 1)) (hc : cells ≤ R.cells) (hs : slots ≤ R.slots) (hQ : Q (some w) T.heap locs) : GoP p e below Φ (T.setTop (mkF m pc Ls (w :: rest))) := by
  obtain ⟨fs, hr, hΦ⟩ := fin _ _ _ _ (some w) X (fun q => by rw [hret] at q; cases q) hQ hc hs
  exact ⟨_, retOut X hx hret hn hi (hb hby hd) hr, hΦ⟩
theorem own_retI (X : Stand p l e R s m args below meth c T locs cells slots) (hx : p.tables.exec = Jvm.exec) (hby : c.code = bytes) {Q : Option Value → Heap → List Loc → Prop} (fin : Fin p l e R s m args below meth c Q Φ) (hret : meth.sig.returnType = some .int) {z : Int32} (hd : decode bytes pc = .ok (.ireturn, 1)) (hc : cells ≤ R.cells) (hs : slots ≤ R.slots) (hQ : Q (some (.int z)) T.heap locs) : GoP p e below Φ (T.setTop (mkF m pc Ls (.int z :: rest))) :=
  own_retV X hx hby fin hret rfl (Or.inl ⟨rfl, Or.inl rfl, z, rfl⟩) hd hc hs hQ
theorem own_retN (X : Stand p l e R s m args below meth c T locs cells slots) (hx : p.tables.exec = Jvm.exec) (hby : c.code = bytes) {Q : Option Value → Heap → List Loc → Prop} (fin : Fin p l e R s m args below meth c Q Φ) {t : FieldType} (hret : meth.sig.returnType = some t) (ht : t = .int ∨ t = .boolean ∨ t = .byte ∨ t = .char ∨ t = .short) {z : Int32} (hn : narrow t (.int z) = .int z) (hd : decode bytes pc = .ok (.ireturn, 1)) (hc : cells ≤ R.cells) (hs : slots ≤ R.slots) (hQ : Q (some (.int z)) T.heap locs) : GoP p e below Φ (T.setTop (mkF m pc Ls (.int z :: rest))) :=
  own_retV X hx hby fin hret hn (Or.inl ⟨rfl, ht, z, rfl⟩) hd hc hs hQ
theorem own_retJ (X : Stand p l e R s m args below meth c T locs cells slots) (hx : p.tables.exec = Jvm.exec) (hby : c.code = bytes) {Q : Option Value → Heap → List Loc → Prop} (fin : Fin p l e R s m args below meth c Q Φ) (hret : meth.sig.returnType = some .long) {z : Int64} (hd : decode bytes pc = .ok (.lreturn, 1)) (hc : cells ≤ R.cells) (hs : slots ≤ R.slots) (hQ : Q (some (.long z)) T.heap locs) : GoP p e below Φ (T.setTop (mkF m pc Ls (.long z :: rest))) :=
  own_retV X hx hby fin hret rfl (Or.inr (Or.inl ⟨rfl, rfl, z, rfl⟩)) hd hc hs hQ
theorem own_retA (X : Stand p l e R s m args below meth c T locs cells slots) (hx : p.tables.exec = Jvm.exec) (hby : c.code = bytes) {Q : Option Value → Heap → List Loc → Prop} (fin : Fin p l e R s m args below meth c Q Φ) {t : FieldType} (hret : meth.sig.returnType = some t) (ht : t.isReference = true) {w : Value} (hw : w.isRef = true) (hn : narrow t w = w) (hd : decode bytes pc = .ok (.areturn, 1)) (hc : cells ≤ R.cells) (hs : slots ≤ R.slots) (hQ : Q (some w) T.heap locs) : GoP p e below Φ (T.setTop (mkF m pc Ls (w :: rest))) :=
  own_retV X hx hby fin hret hn (Or.inr (Or.inr (Or.inr (Or.inr ⟨rfl, ht, hw⟩)))) hd hc hs hQ
theorem own_ret0 (X : Stand p l e R s m args below meth c T locs cells slots) (hx : p.tables.exec = Jvm.exec) (hby : c.code = bytes) {Q : Option Value → Heap → List Loc → Prop} (fin : Fin p l e R s m args below meth c Q Φ) (hret : meth.sig.returnType = none) (hd : decode bytes pc = .ok (.return_, 1)) (hc : cells ≤ R.cells) (hs : slots ≤ R.slots) (hQ : Q none T.heap locs) : GoP p e below Φ (T.setTop (mkF m pc Ls ([]))) := by
  obtain ⟨fs, hr, hΦ⟩ := fin _ _ _ _ none X (fun _ => rfl) hQ hc hs
  exact ⟨_, X.returnOut hx hret (hb hby hd) hr, hΦ⟩
theorem own_callS (X : Stand p l e R s m args below meth c T locs cells slots) (hx : p.tables.exec = Jvm.exec) (hby : c.code = bytes) (hZ : Z.Warmed39 s.vm) (hml : Ls.size = c.maxLocals) {own : String} {index : Nat} {y : MethodName} (hown : s.vm.findClass own = some m.cls) (w1 : (Jvm.Cond.methodLink own index y).before a0 Z = true) (w2 : (Jvm.Cond.static y).before a0 Z = true) (w3 : (Jvm.Cond.initialized y.cls).before a0 Z = true) {bytes' : ByteArray} {maxL : Nat} {ret : Option FieldType} (w4 : (Jvm.Cond.code y bytes' maxL ret).before a0 Z = true) (hy : y.cls ≠ "java/lang/invoke/MethodHandle" ∧ y.cls ≠ "java/lang/invoke/VarHandle") {rm : Room} {Q : Option Value → Heap → List Loc → Prop} (eT : T.heap = h) (W : Nat) (hf : rm.frames + 1 ≤ R.frames) (hl : W + (maxL + 11) + rm.locals ≤ R.locals) (hc : cells + rm.cells ≤ R.cells) (hs : slots + rm.slots ≤ R.slots) {argsL rest : List Value} {st : List Value} (hlen : ∀ sig, parseMethodDescriptor y.desc = some sig → argsL.length = sig.parameters.length) (hst : st = argsL.reverse ++ rest) (hM : Con l Z y bytes' maxL ret [] rm argsL.toArray h Q) (hW : (rest.map fun v => v.category).sum ≤ W) (hd : decode bytes pc = .ok (.invokestatic index, 3)) (hp : pc + 3 = pc') (k : ∀ (v : Option Value) (T' : State) (L : List Loc), Stand p l e R s m args below meth c T' (locs ++ L) (cells + rm.cells) (slots + rm.slots) → Q v T'.heap L → GoP p e below Φ (T'.setTop (mkF m pc' Ls (v.toList ++ rest)))) : GoP p e below Φ (T.setTop (mkF m pc Ls st)) := by
  obtain ⟨v, _, ⟨T', L', k', n'⟩, -, X', ⟨L, hQ, l1, y1, z1⟩, st'⟩ := Jvm.LawKit.callS X hx (y := y) hown (mvT hZ w1) (mvT hZ w2) (mvT hZ w3) (mvT hZ w4) hy (backOf (W := W) hM hZ w4 w3 hf hl) (g := mkF m pc Ls st) rfl hml (argsL := argsL) (rest := rest) hlen hst (by show 2 * 0 + _ ≤ _; omega) (hb hby hd) (fun _ _ => ⟨rfl, eT, hc, hs⟩)
  dsimp only [Pt.U, Pt.locs, Pt.cells, Pt.slots] at X' l1 y1 z1 st' hQ
  subst l1 y1 z1 hp
  exact own_step st' (k _ _ _ X' hQ)
theorem own_callI (X : Stand p l e R s m args below meth c T locs cells slots) (hx : p.tables.exec = Jvm.exec) (hby : c.code = bytes) (hZ : Z.Warmed39 s.vm) (hml : Ls.size = c.maxLocals) {own : String} {index : Nat} {y : MethodName} (hown : s.vm.findClass own = some m.cls) {a : Addr} (hn : y.name = "<init>") (w1 : (Jvm.Cond.methodLink own index y).before a0 Z = true) (w2 : (Jvm.Cond.instanceMethod y).before a0 Z = true) (w3 : (Jvm.Cond.initialized y.cls).before a0 Z = true) {bytes' : ByteArray} {maxL : Nat} (w4 : (Jvm.Cond.code y bytes' maxL none).before a0 Z = true) (hy : y.cls ≠ "java/lang/invoke/MethodHandle" ∧ y.cls ≠ "java/lang/invoke/VarHandle") {rm : Room} {Q : Option Value → Heap → List Loc → Prop} (eT : T.heap = h) (W : Nat) (hf : rm.frames + 1 ≤ R.frames) (hl : W + (maxL + 11) + rm.locals ≤ R.locals) (hc : cells + rm.cells ≤ R.cells) (hs : slots + rm.slots ≤ R.slots) {argsL rest : List Value} {st : List Value} (hlen : ∀ sig, parseMethodDescriptor y.desc = some sig → argsL.length = sig.parameters.length) (hst : st = argsL.reverse ++ .ref a :: rest) (hW : (rest.map fun v => v.category).sum ≤ W) (hM : Con l Z y bytes' maxL none [] rm (.ref a :: argsL).toArray h Q) (hd : decode bytes pc = .ok (.invokespecial index, 3)) (hp : pc + 3 = pc') (k : ∀ (v : Option Value) (T' : State) (L : List Loc), Stand p l e R s m args below meth c T' (locs ++ L) (cells + rm.cells) (slots + rm.slots) → Q v T'.heap L → GoP p e below Φ (T'.setTop (mkF m pc' Ls (v.toList ++ rest)))) : GoP p e below Φ (T.setTop (mkF m pc Ls st)) := by
  obtain ⟨v, _, ⟨T', L', k', n'⟩, -, X', ⟨L, hQ, l1, y1, z1⟩, st'⟩ := X.specialBack hx (y := y) hn hown (mvT hZ w1) (mvT hZ w2) (mvT hZ w4) hy (backOf (W := W) hM hZ w4 w3 hf hl) (g := mkF m pc Ls st) rfl hml (Steps.refl _) (a := a) (argsL := argsL) (rest := rest) hlen hst (by show 2 * 0 + _ ≤ _; omega) (hb hby hd) (fun _ _ => ⟨rfl, eT, hc, hs⟩)
  dsimp only [Pt.U, Pt.locs, Pt.cells, Pt.slots] at X' l1 y1 z1 st' hQ
  subst l1 y1 z1 hp
  exact own_trans st' (k _ _ _ X' hQ)
theorem own_callV (X : Stand p l e R s m args below meth c T locs cells slots) (hx : p.tables.exec = Jvm.exec) (hby : c.code = bytes) (hZ : Z.Warmed39 s.vm) (hml : Ls.size = c.maxLocals) {own : String} {index : Nat} {y : MethodName} (hown : s.vm.findClass own = some m.cls) {C : String} {b : Addr} (w1 : (Jvm.Cond.methodLink own index y).before a0 Z = true) (w2 : (Jvm.Cond.declares y).before a0 Z = true) (w5 : (Jvm.Cond.selects C y y).before a0 Z = true) (w6 : (Jvm.Cond.instanceMethod y).before a0 Z = true) (w3 : (Jvm.Cond.initialized y.cls).before a0 Z = true) {bytes' : ByteArray} {maxL : Nat} {ret : Option FieldType} (w4 : (Jvm.Cond.code y bytes' maxL ret).before a0 Z = true) (hy : y.cls ≠ "java/lang/invoke/MethodHandle" ∧ y.cls ≠ "java/lang/invoke/VarHandle") {rm : Room} {Q : Option Value → Heap → List Loc → Prop} (eT : T.heap = h) (W : Nat) (hf : rm.frames + 1 ≤ R.frames) (hl : W + (maxL + 11) + rm.locals ≤ R.locals) (hc : cells + rm.cells ≤ R.cells) (hs : slots + rm.slots ≤ R.slots) {argsL rest : List Value} {st : List Value} (hlen : ∀ sig, parseMethodDescriptor y.desc = some sig → argsL.length = sig.parameters.length) (hst : st = argsL.reverse ++ .ref b :: rest) (hW : (rest.map fun v => v.category).sum ≤ W) (E : Exa Z h b C) (hM : Con l Z y bytes' maxL ret [] rm (.ref b :: argsL).toArray h Q) (hd : decode bytes pc = .ok (.invokevirtual index, 3)) (hp : pc + 3 = pc') (k : ∀ (v : Option Value) (T' : State) (L : List Loc), Stand p l e R s m args below meth c T' (locs ++ L) (cells + rm.cells) (slots + rm.slots) → Q v T'.heap L → GoP p e below Φ (T'.setTop (mkF m pc' Ls (v.toList ++ rest)))) : GoP p e below Φ (T.setTop (mkF m pc Ls st)) := by
  obtain ⟨cq, kq, qa, qb, qc⟩ := isOf hZ eT E
  obtain ⟨v, _, ⟨T', L', k', n'⟩, -, X', ⟨L, hQ, l1, y1, z1⟩, st'⟩ := X.virtualBack hx (y := y) (z := y) hown (mvT hZ w1) (mvT hZ w2) (notFace_of_selects (args := #[]) (mvT hZ w5)) (mvT hZ w5) (mvT hZ w6) hy (backOf (W := W) hM hZ w4 w3 hf hl) qa qc (g := mkF m pc Ls st) rfl hml (Steps.refl _) (argsL := argsL) (rest := rest) hlen hst (by show 2 * 0 + _ ≤ _; omega) (hb hby hd) (fun _ _ => ⟨rfl, eT, hc, hs⟩)
  dsimp only [Pt.U, Pt.locs, Pt.cells, Pt.slots] at X' l1 y1 z1 st' hQ
  subst l1 y1 z1 hp
  exact own_trans st' (k _ _ _ X' hQ)
theorem own_callU (X : Stand p l e R s m args below meth c T locs cells slots) (hx : p.tables.exec = Jvm.exec) (hby : c.code = bytes) (hZ : Z.Warmed39 s.vm) (hml : Ls.size = c.maxLocals) {own : String} {index : Nat} {x0 y : MethodName} (hown : s.vm.findClass own = some m.cls) {C owner : String} {b : Addr} (w1 : (Jvm.Cond.methodLink own index x0).before a0 Z = true) (ws : (Jvm.Cond.sameMethod x0.cls owner x0.name x0.desc).before a0 Z = true) (w2 : (Jvm.Cond.declares ⟨owner, x0.name, x0.desc⟩).before a0 Z = true) (w5 : (Jvm.Cond.selects C x0 y).before a0 Z = true) (w6 : (Jvm.Cond.instanceMethod y).before a0 Z = true) (w3 : (Jvm.Cond.initialized y.cls).before a0 Z = true) {bytes' : ByteArray} {maxL : Nat} {ret : Option FieldType} (w4 : (Jvm.Cond.code y bytes' maxL ret).before a0 Z = true) (hy : owner ≠ "java/lang/invoke/MethodHandle" ∧ owner ≠ "java/lang/invoke/VarHandle") {rm : Room} {Q : Option Value → Heap → List Loc → Prop} (eT : T.heap = h) (W : Nat) (hf : rm.frames + 1 ≤ R.frames) (hl : W + (maxL + 11) + rm.locals ≤ R.locals) (hc : cells + rm.cells ≤ R.cells) (hs : slots + rm.slots ≤ R.slots) {argsL rest : List Value} {st : List Value} (hlen : ∀ sig, parseMethodDescriptor x0.desc = some sig → argsL.length = sig.parameters.length) (hst : st = argsL.reverse ++ .ref b :: rest) (hW : (rest.map fun v => v.category).sum ≤ W) (E : Exa Z h b C) (hM : Con l Z y bytes' maxL ret [] rm (.ref b :: argsL).toArray h Q) (hd : decode bytes pc = .ok (.invokevirtual index, 3)) (hp : pc + 3 = pc') (k : ∀ (v : Option Value) (T' : State) (L : List Loc), Stand p l e R s m args below meth c T' (locs ++ L) (cells + rm.cells) (slots + rm.slots) → Q v T'.heap L → GoP p e below Φ (T'.setTop (mkF m pc' Ls (v.toList ++ rest)))) : GoP p e below Φ (T.setTop (mkF m pc Ls st)) := by
  obtain ⟨cq, kq, qa, qb, qc⟩ := isOf hZ eT E
  obtain ⟨v, _, ⟨T', L', k', n'⟩, -, X', ⟨L, hQ, l1, y1, z1⟩, st'⟩ := X.virtualBackUp hx (x := x0) (y := y) hown (mvT hZ w1) (mvT hZ ws) (mvT hZ w2) hy (mvT hZ w5) (mvT hZ w6) (backOf (W := W) hM hZ w4 w3 hf hl) qa qc (g := mkF m pc Ls st) rfl hml (Steps.refl _) (argsL := argsL) (rest := rest) hlen hst (by show 2 * 0 + _ ≤ _; omega) (hb hby hd) (fun _ _ => ⟨rfl, eT, hc, hs⟩)
  dsimp only [Pt.U, Pt.locs, Pt.cells, Pt.slots] at X' l1 y1 z1 st' hQ
  subst l1 y1 z1 hp
  exact own_trans st' (k _ _ _ X' hQ)
theorem own_callF (X : Stand p l e R s m args below meth c T locs cells slots) (hx : p.tables.exec = Jvm.exec) (hby : c.code = bytes) (hZ : Z.Warmed39 s.vm) (hml : Ls.size = c.maxLocals) {own : String} {index : Nat} {x0 y : MethodName} (hown : s.vm.findClass own = some m.cls) {count : Nat} {C : String} {b : Addr} (w1 : (Jvm.Cond.methodLink own index x0).before a0 Z = true) (w2 : (Jvm.Cond.declares x0).before a0 Z = true) (w7 : (Jvm.Cond.interfaceMethod x0.cls x0.cls x0.name x0.desc).before a0 Z = true) (w5 : (Jvm.Cond.selects C x0 y).before a0 Z = true) (w6 : (Jvm.Cond.instanceMethod y).before a0 Z = true) (w8 : (Jvm.Cond.publicMethod y).before a0 Z = true) (w9 : (Jvm.Cond.unhidden C x0.name x0.desc).before a0 Z = true) (w10 : (Jvm.Cond.castable C x0.cls).before a0 Z = true) (w3 : (Jvm.Cond.initialized y.cls).before a0 Z = true) (q7 : ((Jvm.Cond.interfaceMethod x0.cls x0.cls x0.name x0.desc).onTables && (Jvm.Cond.interfaceMethod x0.cls x0.cls x0.name x0.desc).keepsFace) = true) {bytes' : ByteArray} {maxL : Nat} {ret : Option FieldType} (w4 : (Jvm.Cond.code y bytes' maxL ret).before a0 Z = true) (hy : x0.cls ≠ "java/lang/invoke/MethodHandle" ∧ x0.cls ≠ "java/lang/invoke/VarHandle") {rm : Room} {Q : Option Value → Heap → List Loc → Prop} (eT : T.heap = h) (W : Nat) (hf : rm.frames + 1 ≤ R.frames) (hl : W + (maxL + 11) + rm.locals ≤ R.locals) (hc : cells + rm.cells ≤ R.cells) (hs : slots + rm.slots ≤ R.slots) {argsL rest : List Value} {st : List Value} (hlen : ∀ sig, parseMethodDescriptor x0.desc = some sig → argsL.length = sig.parameters.length) (hst : st = argsL.reverse ++ .ref b :: rest) (hW : (rest.map fun v => v.category).sum ≤ W) (E : Exa Z h b C) (hM : Con l Z y bytes' maxL ret [] rm (.ref b :: argsL).toArray h Q) (hd : decode bytes pc = .ok (.invokeinterface index count, 5)) (hp : pc + 5 = pc') (k : ∀ (v : Option Value) (T' : State) (L : List Loc), Stand p l e R s m args below meth c T' (locs ++ L) (cells + rm.cells) (slots + rm.slots) → Q v T'.heap L → GoP p e below Φ (T'.setTop (mkF m pc' Ls (v.toList ++ rest)))) : GoP p e below Φ (T.setTop (mkF m pc Ls st)) := by
  obtain ⟨cq, kq, qa, qb, qc⟩ := isOf hZ eT E
  obtain ⟨v, _, ⟨T', L', k', n'⟩, -, X', ⟨L, hQ, l1, y1, z1⟩, st'⟩ := X.interfaceBack hx (xi := x0) (y := y) hown (mvT hZ w1) (mvT hZ w2) (mvT hZ w7 q7) (mvT hZ w5) (mvT hZ w6) (mvT hZ w8) (mvT hZ w9) (mvT hZ w10) hy (backOf (W := W) hM hZ w4 w3 hf hl) qa qb qc (g := mkF m pc Ls st) rfl hml (Steps.refl _) (argsL := argsL) (rest := rest) hlen hst (by show 2 * 0 + _ ≤ _; omega) (hb hby hd) (fun _ _ => ⟨rfl, eT, hc, hs⟩)
  dsimp only [Pt.U, Pt.locs, Pt.cells, Pt.slots] at X' l1 y1 z1 st' hQ
  subst l1 y1 z1 hp
  exact own_trans st' (k _ _ _ X' hQ)
theorem own_callP (X : Stand p l e R s m args below meth c T locs cells slots) (hx : p.tables.exec = Jvm.exec) (hby : c.code = bytes) (hZ : Z.Warmed39 s.vm) (hml : Ls.size = c.maxLocals) {own : String} {index : Nat} {y : MethodName} (hown : s.vm.findClass own = some m.cls) {C : String} {b : Addr} (w1 : (Jvm.Cond.methodLink own index y).before a0 Z = true) (w2 : (Jvm.Cond.privateMethod y).before a0 Z = true) (w5 : (Jvm.Cond.selects y.cls y y).before a0 Z = true) (w6 : (Jvm.Cond.instanceMethod y).before a0 Z = true) (w3 : (Jvm.Cond.initialized y.cls).before a0 Z = true) {bytes' : ByteArray} {maxL : Nat} {ret : Option FieldType} (w4 : (Jvm.Cond.code y bytes' maxL ret).before a0 Z = true) (hy : y.cls ≠ "java/lang/invoke/MethodHandle" ∧ y.cls ≠ "java/lang/invoke/VarHandle") {rm : Room} {Q : Option Value → Heap → List Loc → Prop} (eT : T.heap = h) (W : Nat) (hf : rm.frames + 1 ≤ R.frames) (hl : W + (maxL + 11) + rm.locals ≤ R.locals) (hc : cells + rm.cells ≤ R.cells) (hs : slots + rm.slots ≤ R.slots) {argsL rest : List Value} {st : List Value} (hlen : ∀ sig, parseMethodDescriptor y.desc = some sig → argsL.length = sig.parameters.length) (hst : st = argsL.reverse ++ .ref b :: rest) (hW : (rest.map fun v => v.category).sum ≤ W) (E : Exa Z h b C) (hM : Con l Z y bytes' maxL ret [] rm (.ref b :: argsL).toArray h Q) (hd : decode bytes pc = .ok (.invokevirtual index, 3)) (hp : pc + 3 = pc') (k : ∀ (v : Option Value) (T' : State) (L : List Loc), Stand p l e R s m args below meth c T' (locs ++ L) (cells + rm.cells) (slots + rm.slots) → Q v T'.heap L → GoP p e below Φ (T'.setTop (mkF m pc' Ls (v.toList ++ rest)))) : GoP p e below Φ (T.setTop (mkF m pc Ls st)) := by
  obtain ⟨cq, q1, q2⟩ := E.cell
  obtain ⟨v, _, ⟨T', L', k', n'⟩, -, X', ⟨L, hQ, l1, y1, z1⟩, st'⟩ := X.privateBack hx (y := y) hown (mvT hZ w1) (mvT hZ w6) (mvT hZ w5) (Cond.privateMethod_at (mvP hZ w2 (args := #[]))) (mvT hZ w4) hy (backOf (W := W) hM hZ w4 w3 hf hl) (g := mkF m pc Ls st) rfl hml (Steps.refl _) (a := b) (by rw [eT]; exact q1) q2 (argsL := argsL) (rest := rest) hlen hst (by show 2 * 0 + _ ≤ _; omega) (hb hby hd) (fun _ _ => ⟨rfl, eT, hc, hs⟩)
  dsimp only [Pt.U, Pt.locs, Pt.cells, Pt.slots] at X' l1 y1 z1 st' hQ
  subst l1 y1 z1 hp
  exact own_trans st' (k _ _ _ X' hQ)
theorem own_fldI {args : Array Value} {s : State} {t : Term} {a : Addr} {C n d : String} {k : Int32} (ev : t.eval args s none [] s = some (.ref a)) (q : (Jvm.Cond.eq (Jvm.Term.field t C n d) (Jvm.Term.int k)).value args s none s [] = some true) : Fld s s.heap a C n d (.int k) := by
  obtain ⟨x, y, e1, e2, k1, k2⟩ := cmp_v (Or.inl q)
  have ey : y = .int k := Option.some.inj (e2.symm.trans (Term.int_eval k))
  subst ey
  obtain ⟨z, rfl⟩ : ∃ z, x = .int z := k2
  have ez : z = k := by simpa [Cond.value, e1, e2] using q
  subst ez
  exact Fld.start ((fld_at ev).symm.trans e1)
theorem own_i32 (x : Int32) (k : Int) (hk : (Int32.ofInt k).toInt = k) (h : x.toInt = k) : x = Int32.ofInt k := Int32.toInt_inj.mp (h.trans hk.symm)
theorem own_stakeep {C n d : String} {w : Value} {h' : Heap} {ws : List Addr} (F : Sta Z h C n d w) (K : Keep h h' ws) (q : ∀ x ∈ ws, ∀ c : Cell, h[x]? = some c → c.vm.isStatics = false) : Sta Z h' C n d w := by
  obtain ⟨cf, i, k, f, st, cell, h1, h2, h3, h4, h5, h6, h7⟩ := F
  exact ⟨cf, i, k, f, st, cell, h1, h2, h3, h4, K.2.1 st cell h5 (fun y => by rw [q st y cell h5] at h6; cases h6), h6, h7⟩
theorem own_plainE {a : Addr} {C : String} (F : Exa Z h a C) : ∀ c : Cell, h[a]? = some c → c.vm.isStatics = false := fun c hc => by
  obtain ⟨cell, k, h1, h2, h3, h4, -⟩ := F
  cases hc.symm.trans h1; exact h4
theorem own_plainV {a : Addr} {k : ClassId} {ty : FieldType} {n : Int32} {vs : List Value} {d : Value} (F : Arv Z h a k ty n vs d) : ∀ c : Cell, h[a]? = some c → c.vm.isStatics = false := fun c hc => by
  obtain ⟨cell, A, -⟩ := F
  cases hc.symm.trans A.1; exact A.plain
/-- an int array of length n, of whatever ints -/
def IA (Z : State) (h : Heap) (a : Addr) (n : Int32) : Prop := ∃ cl : Cell, Arr Z h a cl .int ∧ cl.slots.size = n.toNatClampNeg ∧ ¬ n < 0 ∧ ∀ i, i < cl.slots.size → ∃ x, cl.slots[i]? = some (.int x)
theorem IA.new {a : Addr} {k : ClassId} {n : Int32} (A : Arr Z h a (newA k .int n) .int) (q : ¬ n < 0) : IA Z h a n :=
  ⟨_, A, sz_new _ _ _, q, fun i hi => ⟨0, by simp [newA] at hi ⊢; simp [defaultValue, hi]⟩⟩
theorem own_iastoreA (X : Stand p l e R s m args below meth c T locs cells slots) (hx : p.tables.exec = Jvm.exec) (hby : c.code = bytes) (hZ : Z.Warmed39 s.vm) (eT : T.heap = h) {a : Addr} {n j x : Int32} (F : IA Z h a n) (hj : ¬ j < 0 ∧ j < n) (hd : decode bytes pc = .ok (.iastore, 1)) (hp : pc + 1 = pc') (k : ∀ (T' : State) (h' : Heap), Stand p l e R s m args below meth c T' (locs ++ [⟨a, j.toNatClampNeg⟩]) cells slots → T'.heap = h' → Wr h h' a j.toNatClampNeg (.int x) → IA Z h' a n → GoP p e below Φ (T'.setTop (mkF m pc' Ls rest))) : GoP p e below Φ (T.setTop (mkF m pc Ls (.int x :: .int j :: .ref a :: rest))) := by
  subst hp
  obtain ⟨cl, A, S, N, H⟩ := F
  obtain ⟨T', h', X', e', W', st'⟩ := stI X hx hZ eT A (j := j) (x := x) (inb_of S hj) (g := mkF m pc Ls (.int x :: .int j :: .ref a :: rest)) rfl rfl (hb hby hd)
  refine own_step st' (k T' h' X' e' W' ⟨_, A.same W', by rw [sz_set]; exact S, N, fun i hi => ?_⟩)
  rw [sz_set] at hi
  by_cases q : i = j.toNatClampNeg
  · subst q; exact ⟨x, by simp [Cell.setSlot, hi]⟩
  · obtain ⟨y, hy⟩ := H i hi
    exact ⟨y, by rw [show (cl.setSlot j.toNatClampNeg (.int x)).slots[i]? = cl.slots[i]? from Array.getElem?_setIfInBounds_ne (Ne.symm q)]; exact hy⟩
theorem own_ialoadA (X : Stand p l e R s m args below meth c T locs cells slots) (hx : p.tables.exec = Jvm.exec) (hby : c.code = bytes) (hZ : Z.Warmed39 s.vm) (eT : T.heap = h) {a : Addr} {n j : Int32} (F : IA Z h a n) (hj : ¬ j < 0 ∧ j < n) (hd : decode bytes pc = .ok (.iaload, 1)) (hp : pc + 1 = pc') (k : ∀ w : Int32, GoP p e below Φ (T.setTop (mkF m pc' Ls (.int w :: rest)))) : GoP p e below Φ (T.setTop (mkF m pc Ls (.int j :: .ref a :: rest))) := by
  subst hp
  obtain ⟨cl, A, S, N, H⟩ := F
  have q := inb_of S hj
  obtain ⟨w, hw⟩ := H j.toNatClampNeg (Nat.lt_of_not_le fun y => q (Or.inr y))
  exact own_step (fun t u => X.iaload hx (j := j) (v := .int w) (by rw [eT]; exact A.1) (State.isArrayOf_alike hZ.alike A.2.1) A.2.2 q hw (g := mkF m pc Ls (.int j :: .ref a :: rest)) rfl rfl (hb hby hd) t u) (k w)
theorem own_alenA (X : Stand p l e R s m args below meth c T locs cells slots) (hx : p.tables.exec = Jvm.exec) (hby : c.code = bytes) (hZ : Z.Warmed39 s.vm) (eT : T.heap = h) {a : Addr} {n : Int32} (F : IA Z h a n) (hd : decode bytes pc = .ok (.arraylength, 1)) (hp : pc + 1 = pc') (k : GoP p e below Φ (T.setTop (mkF m pc' Ls (.int n :: rest)))) : GoP p e below Φ (T.setTop (mkF m pc Ls (.ref a :: rest))) := by
  subst hp
  obtain ⟨cl, A, S, N, H⟩ := F
  rw [← len_of S N] at k
  exact own_step (fun t u => X.arraylength hx (by rw [eT]; exact A.1) (State.isArrayOf_alike hZ.alike A.2.1) (g := mkF m pc Ls (.ref a :: rest)) rfl rfl (hb hby hd) t u) k
end OwnKit
end Jvm.Pilot.@@N@@
namespace Jvm.Pilot.@@N@@
open Jvm Jvm.ClassFile Sem Op Lib Jvm.Free Jvm.Stand Jvm.LawKit Jvm.RoadKit Bundle Jvm.Pilot.@@N@@.Jvm.D
def own_up (v b : Int64) : Int64 := if b = (9223372036854775807 : Int64) then (v &&& (9223372036854775807 : Int64)) else ((v &&& (9223372036854775807 : Int64)) % (b + (1 : Int64)))
theorem own_nz {b : Int64} (h0 : 0 ≤ b.toInt) (h : ¬ b = (9223372036854775807 : Int64)) : (b + (1 : Int64)) ≠ 0 := fun q => by
  have c := c_ladd b 1
  have e1 : (1 : Int64).toInt = 1 := by decide
  have e0 : (0 : Int64).toInt = 0 := by decide
  have e2 : ((9223372036854775807 : Int64)).toInt = 9223372036854775807 := by decide
  have r := rng64 b
  rw [q, e0, e1] at c
  rw [← Int64.toInt_inj, e2] at h
  omega
theorem own_up_b (v : Int64) {b : Int64} (h0 : 0 ≤ b.toInt) : 0 ≤ (own_up v b).toInt ∧ (own_up v b).toInt ≤ b.toInt := by
  have a := c_maskL v (9223372036854775807 : Int64) 63 (by decide) (by decide)
  have e2 : ((9223372036854775807 : Int64)).toInt = 9223372036854775807 := by decide
  unfold own_up
  split
  · rename_i q; subst q; omega
  · rename_i q
    have c := c_ladd b 1
    have e1 : (1 : Int64).toInt = 1 := by decide
    have r := rng64 b
    have r' := rng64 (b + 1)
    rw [e1] at c
    rw [← Int64.toInt_inj, e2] at q
    have f : (b + (1 : Int64)).toInt = b.toInt + 1 := by omega
    have g := (c_lrem (v &&& (9223372036854775807 : Int64)) (b + (1 : Int64)) (b.toInt + 1) f).1 (by omega)
    rw [lrem_mod] at g
    rw [g]
    have g1 := Int.emod_nonneg (v &&& (9223372036854775807 : Int64)).toInt (show b.toInt + 1 ≠ 0 by omega)
    have g2 := Int.emod_lt_of_pos (v &&& (9223372036854775807 : Int64)).toInt (show 0 < b.toInt + 1 by omega)
    omega
theorem own_sub {a b : Int64} (h0 : 0 ≤ b.toInt) (h1 : b.toInt ≤ a.toInt) : (a - b).toInt = a.toInt - b.toInt := by
  have c := c_lsub a b
  have r := rng64 (a - b)
  have r1 := rng64 a
  omega
theorem own_nneg {a : Int64} (h : 0 ≤ a.toInt) : ¬ a < (0 : Int64) := fun q => by
  have e0 : (0 : Int64).toInt = 0 := by decide
  rw [Int64.lt_iff_toInt_lt, e0] at q
  omega
theorem ef_rmU (m : MethodId) (x0 : Int64) (x1 : Int64) : entryFrame m #[(.long x0), (.long x1)] 6 = mkF m 0 #[.val (.long x0), .second, .val (.long x1), .second, .unset, .unset] [] := by first | (simp [entryFrame, mkF, argsToLocals, Value.category]; done) | rfl
theorem pn_com_example_edictd_edictd_policy_StepsTakePinLaw : plainName "com/example/edictd/edictd/policy/StepsTakePinLaw" = true := by first | (simp [plainName, overriddenIn]; done) | decide +kernel
theorem d_method_3_code_0 : decode method_3_code 0 = .ok (.lload_n 0, 1) := by decide +kernel
theorem d_method_3_code_1 : decode method_3_code 1 = .ok (.ldc2_w 9, 3) := by decide +kernel
theorem d_method_3_code_4 : decode method_3_code 4 = .ok (.land, 1) := by decide +kernel
theorem d_method_3_code_5 : decode method_3_code 5 = .ok (.lstore 4, 2) := by decide +kernel
theorem d_method_3_code_7 : decode method_3_code 7 = .ok (.lload_n 2, 1) := by decide +kernel
theorem d_method_3_code_8 : decode method_3_code 8 = .ok (.ldc2_w 9, 3) := by decide +kernel
theorem d_method_3_code_11 : decode method_3_code 11 = .ok (.lcmp, 1) := by decide +kernel
theorem d_method_3_code_12 : decode method_3_code 12 = .ok (.ifCond .ne 8, 3) := by decide +kernel
theorem d_method_3_code_15 : decode method_3_code 15 = .ok (.lload 4, 2) := by decide +kernel
theorem d_method_3_code_17 : decode method_3_code 17 = .ok (.goto 9, 3) := by decide +kernel
theorem d_method_3_code_26 : decode method_3_code 26 = .ok (.lreturn, 1) := by decide +kernel
theorem d_method_3_code_20 : decode method_3_code 20 = .ok (.lload 4, 2) := by decide +kernel
theorem d_method_3_code_22 : decode method_3_code 22 = .ok (.lload_n 2, 1) := by decide +kernel
theorem d_method_3_code_23 : decode method_3_code 23 = .ok (.lconst 1, 1) := by decide +kernel
theorem d_method_3_code_24 : decode method_3_code 24 = .ok (.ladd, 1) := by decide +kernel
theorem d_method_3_code_25 : decode method_3_code 25 = .ok (.lrem, 1) := by decide +kernel
set_option maxRecDepth 65536 in
set_option maxHeartbeats 40000000 in
theorem rmU (l : Launch) (Z : State) (a0 : Array Value) (hw : ∀ d ∈ tables_1, d.before a0 Z = true) (q1 q2 : Int64) (h0 : Heap) (hb0 : 0 ≤ q2.toInt) : Con l Z (⟨"com/example/edictd/edictd/policy/StepsTakePinLaw", "upTo", "(JJ)J"⟩ : MethodName) method_3_code 6 (some .long) [] ({ frames := 0, cells := 0, slots := 0, locals := 0 } : Room) #[(.long q1), (.long q2)] h0 (fun v h L => v = some (.long (own_up q1 q2)) ∧ L = [] ∧ h = h0) := by
  refine Con.of pn_com_example_edictd_edictd_policy_StepsTakePinLaw ?_
  intro p e s m below meth c T X hx hby hml hown hnm hret eT hZ hsh Φ fin
  replace hown : s.vm.findClass "com/example/edictd/edictd/policy/StepsTakePinLaw" = some m.cls := hown
  replace hml : 6 = c.maxLocals := hml.symm
  refine own_step (fun t k => castTop (ef_rmU m q1 q2) k) ?_
  refine own_lloadN X hx hby d_method_3_code_0 rfl (pc' := 1) rfl ?_
  refine own_ldc2J X hx hby hZ hown (own_w hw 0 rfl) d_method_3_code_1 (pc' := 4) rfl ?_
  refine own_land X hx hby d_method_3_code_4 (pc' := 5) rfl ?_
  refine own_lstore X hx hby d_method_3_code_5  (Ls' := #[.val (.long q1), .second, .val (.long q2), .second, .val (.long (q1 &&& (9223372036854775807 : Int64))), .second]) rfl (pc' := 7) rfl ?_
  refine own_lloadN X hx hby d_method_3_code_7 rfl (pc' := 8) rfl ?_
  refine own_ldc2J X hx hby hZ hown (own_w hw 0 rfl) d_method_3_code_8 (pc' := 11) rfl ?_
  refine own_lcmp X hx hby d_method_3_code_11 (pc' := 12) rfl ?_
  by_cases hc12_1 : q2 = (9223372036854775807 : Int64)
  · refine own_ifN X hx hby d_method_3_code_12 ((if0 _ _).trans (teq ((lw_eq _ _).mpr hc12_1)).2) (pc' := 15) rfl ?_
    refine own_lload X hx hby d_method_3_code_15 rfl (pc' := 17) rfl ?_
    refine own_goto X hx hby d_method_3_code_17 (by decide) (pc' := 26) (by decide) ?_
    exact own_retJ X hx hby fin hret d_method_3_code_26 (by decide) (by decide) ⟨by rw [own_up, if_pos hc12_1], rfl, eT⟩
  · refine own_ifY X hx hby d_method_3_code_12 ((if0 _ _).trans (feq (fun q => hc12_1 ((lw_eq _ _).mp q))).2) (by decide) (pc' := 20) (by decide) ?_
    refine own_lload X hx hby d_method_3_code_20 rfl (pc' := 22) rfl ?_
    refine own_lloadN X hx hby d_method_3_code_22 rfl (pc' := 23) rfl ?_
    refine own_lconst X hx hby d_method_3_code_23 (v := (1 : Int64)) rfl (pc' := 24) rfl ?_
    refine own_ladd X hx hby d_method_3_code_24 (pc' := 25) rfl ?_
    refine own_lrem X hx hby d_method_3_code_25 (own_nz hb0 hc12_1) (pc' := 26) rfl ?_
    exact own_retJ X hx hby fin hret d_method_3_code_26 (by decide) (by decide) ⟨by rw [own_up, if_neg hc12_1], rfl, eT⟩
theorem ef_rmI (m : MethodId) (x0 : Addr) (x1 : Int64) : entryFrame m #[(.ref x0), (.long x1)] 3 = mkF m 0 #[.val (.ref x0), .val (.long x1), .second] [] := by first | (simp [entryFrame, mkF, argsToLocals, Value.category]; done) | rfl
theorem pn_com_example_edictd_edictd_policy_Steps : plainName "com/example/edictd/edictd/policy/Steps" = true := by first | (simp [plainName, overriddenIn]; done) | decide +kernel
theorem d_prog_56_method_1_code_0 : decode prog_56_method_1_code 0 = .ok (.aload_n 0, 1) := by decide +kernel
theorem d_prog_56_method_1_code_1 : decode prog_56_method_1_code 1 = .ok (.invokespecial 1, 3) := by decide +kernel
theorem d_prog_56_method_1_code_4 : decode prog_56_method_1_code 4 = .ok (.aload_n 0, 1) := by decide +kernel
theorem d_prog_56_method_1_code_5 : decode prog_56_method_1_code 5 = .ok (.lload_n 1, 1) := by decide +kernel
theorem d_prog_56_method_1_code_6 : decode prog_56_method_1_code 6 = .ok (.putfield 7, 3) := by decide +kernel
theorem d_prog_56_method_1_code_9 : decode prog_56_method_1_code 9 = .ok (.return_, 1) := by decide +kernel
set_option maxRecDepth 65536 in
set_option maxHeartbeats 40000000 in
theorem rmI (l : Launch) (Z : State) (a0 : Array Value) (hw : ∀ d ∈ tables_1, d.before a0 Z = true) (a : Addr) (q1 : Int64) (n0 : Nat) (h0 : Heap) (n0_a : n0 ≤ a) (E : Exa Z h0 a "com/example/edictd/edictd/policy/Steps") (F : Fld Z h0 a "com/example/edictd/edictd/policy/Steps" "left" "J" (.long (0 : Int64))) : Con l Z (⟨"com/example/edictd/edictd/policy/Steps", "<init>", "(J)V"⟩ : MethodName) prog_56_method_1_code 3 none [] ({ frames := 1, cells := 0, slots := 0, locals := 12 } : Room) #[(.ref a), (.long q1)] h0 (fun v h L => v = none ∧ Fr n0 L ∧ Keep h0 h [a] ∧ Exa Z h a "com/example/edictd/edictd/policy/Steps" ∧ Fld Z h a "com/example/edictd/edictd/policy/Steps" "left" "J" (.long q1)) := by
  refine Con.of pn_com_example_edictd_edictd_policy_Steps ?_
  intro p e s m below meth c T X hx hby hml hown hnm hret eT hZ hsh Φ fin
  replace hown : s.vm.findClass "com/example/edictd/edictd/policy/Steps" = some m.cls := hown
  replace hml : 3 = c.maxLocals := hml.symm
  refine own_step (fun t k => castTop (ef_rmI m a q1) k) ?_
  have N0 := Fr.nil n0
  have K0 : Keep h0 h0 [a] := Keep.refl h0 [a]
  refine own_aloadN X hx hby d_prog_56_method_1_code_0 rfl rfl (pc' := 1) rfl ?_
  obtain ⟨T1, X1, e1, st1⟩ := initO X hx hZ hown (own_w hw 11 rfl) (own_w hw 12 rfl) (own_w hw 13 rfl) eT (g := (mkF m 1 #[.val (.ref a), .val (.long q1), .second] [(.ref a)])) rfl hml rfl (hb hby d_prog_56_method_1_code_1) (by decide) (W := 0) (by show 2 * 0 + _ ≤ _; exact Nat.le_of_eq rfl) (by decide)
  refine own_step st1 ?_
  show GoP p e below Φ (T1.setTop (mkF m 4 #[.val (.ref a), .val (.long q1), .second] []))
  refine own_aloadN X1 hx hby d_prog_56_method_1_code_4 rfl rfl (pc' := 5) rfl ?_
  refine own_lloadN X1 hx hby d_prog_56_method_1_code_5 rfl (pc' := 6) rfl ?_
  obtain ⟨T2, h2, X2, e2, W2, st2⟩ := putF X1 hx hZ hown (host := "") (Or.inl (own_w hw 14 rfl)) Via.refl e1 F E (Or.inl (own_w hw 15 rfl)) (own_w hw 6 rfl) (ty := .long) (by decide) rfl rfl (g := (mkF m 6 #[.val (.ref a), .val (.long q1), .second] [(.long q1), (.ref a)])) rfl rfl (hb hby d_prog_56_method_1_code_6)
  refine own_step st2 ?_
  have E3_a := E.wr W2
  have F4_left := F.same W2
  have N2 := Fr.snoc X2 N0 n0_a
  have K2 : Keep h0 h2 [a] := K0.wr W2 (Or.inl (List.mem_of_getElem? (i := 0) rfl))
  show GoP p e below Φ (T2.setTop (mkF m 9 #[.val (.ref a), .val (.long q1), .second] []))
  exact own_ret0 X2 hx hby fin hret d_prog_56_method_1_code_9 (by decide) (by decide) (by rw [e2]; exact ⟨rfl, N2, K2, E3_a, F4_left⟩)
theorem ef_rmT (m : MethodId) (x0 : Addr) (x1 : Int64) : entryFrame m #[(.ref x0), (.long x1)] 3 = mkF m 0 #[.val (.ref x0), .val (.long x1), .second] [] := by first | (simp [entryFrame, mkF, argsToLocals, Value.category]; done) | rfl
theorem d_prog_56_method_6_code_0 : decode prog_56_method_6_code 0 = .ok (.aload_n 0, 1) := by decide +kernel
theorem d_prog_56_method_6_code_1 : decode prog_56_method_6_code 1 = .ok (.dup, 1) := by decide +kernel
theorem d_prog_56_method_6_code_2 : decode prog_56_method_6_code 2 = .ok (.getfield 7, 3) := by decide +kernel
theorem d_prog_56_method_6_code_5 : decode prog_56_method_6_code 5 = .ok (.lload_n 1, 1) := by decide +kernel
theorem d_prog_56_method_6_code_6 : decode prog_56_method_6_code 6 = .ok (.lsub, 1) := by decide +kernel
theorem d_prog_56_method_6_code_7 : decode prog_56_method_6_code 7 = .ok (.putfield 7, 3) := by decide +kernel
theorem d_prog_56_method_6_code_10 : decode prog_56_method_6_code 10 = .ok (.aload_n 0, 1) := by decide +kernel
theorem d_prog_56_method_6_code_11 : decode prog_56_method_6_code 11 = .ok (.getfield 7, 3) := by decide +kernel
theorem d_prog_56_method_6_code_14 : decode prog_56_method_6_code 14 = .ok (.lconst 0, 1) := by decide +kernel
theorem d_prog_56_method_6_code_15 : decode prog_56_method_6_code 15 = .ok (.lcmp, 1) := by decide +kernel
theorem d_prog_56_method_6_code_16 : decode prog_56_method_6_code 16 = .ok (.ifCond .ge 7, 3) := by decide +kernel
theorem d_prog_56_method_6_code_23 : decode prog_56_method_6_code 23 = .ok (.return_, 1) := by decide +kernel
set_option maxRecDepth 65536 in
set_option maxHeartbeats 40000000 in
theorem rmT (l : Launch) (Z : State) (a0 : Array Value) (hw : ∀ d ∈ tables_1, d.before a0 Z = true) (a : Addr) (q1 w : Int64) (n0 : Nat) (h0 : Heap) (n0_a : n0 ≤ a) (hn : ¬ (w - q1) < (0 : Int64)) (E : Exa Z h0 a "com/example/edictd/edictd/policy/Steps") (F : Fld Z h0 a "com/example/edictd/edictd/policy/Steps" "left" "J" (.long w)) : Con l Z (⟨"com/example/edictd/edictd/policy/Steps", "take", "(J)V"⟩ : MethodName) prog_56_method_6_code 3 none [] ({ frames := 0, cells := 0, slots := 0, locals := 0 } : Room) #[(.ref a), (.long q1)] h0 (fun v h L => v = none ∧ Fr n0 L ∧ Keep h0 h [a] ∧ Exa Z h a "com/example/edictd/edictd/policy/Steps" ∧ Fld Z h a "com/example/edictd/edictd/policy/Steps" "left" "J" (.long (w - q1))) := by
  refine Con.of pn_com_example_edictd_edictd_policy_Steps ?_
  intro p e s m below meth c T X hx hby hml hown hnm hret eT hZ hsh Φ fin
  replace hown : s.vm.findClass "com/example/edictd/edictd/policy/Steps" = some m.cls := hown
  replace hml : 3 = c.maxLocals := hml.symm
  refine own_step (fun t k => castTop (ef_rmT m a q1) k) ?_
  have N0 := Fr.nil n0
  have K0 : Keep h0 h0 [a] := Keep.refl h0 [a]
  refine own_aloadN X hx hby d_prog_56_method_6_code_0 rfl rfl (pc' := 1) rfl ?_
  refine own_dup X hx hby d_prog_56_method_6_code_1 rfl (pc' := 2) rfl ?_
  obtain ⟨T1, X1, e1, st1⟩ := getF X hx hZ hown (host := "") (Or.inl (own_w hw 14 rfl)) Via.refl eT F (g := (mkF m 2 #[.val (.ref a), .val (.long q1), .second] [(.ref a), (.ref a)])) rfl rfl (hb hby d_prog_56_method_6_code_2)
  refine own_step st1 ?_
  show GoP p e below Φ (T1.setTop (mkF m 5 #[.val (.ref a), .val (.long q1), .second] [(.long w), (.ref a)]))
  refine own_lloadN X1 hx hby d_prog_56_method_6_code_5 rfl (pc' := 6) rfl ?_
  refine own_lsub X1 hx hby d_prog_56_method_6_code_6 (pc' := 7) rfl ?_
  obtain ⟨T2, h2, X2, e2, W2, st2⟩ := putF X1 hx hZ hown (host := "") (Or.inl (own_w hw 14 rfl)) Via.refl e1 F E (Or.inl (own_w hw 15 rfl)) (own_w hw 6 rfl) (ty := .long) (by decide) rfl rfl (g := (mkF m 7 #[.val (.ref a), .val (.long q1), .second] [(.long (w - q1)), (.ref a)])) rfl rfl (hb hby d_prog_56_method_6_code_7)
  refine own_step st2 ?_
  have E3_a := E.wr W2
  have F4_left := F.same W2
  have N2 := Fr.snoc X2 N0 n0_a
  have K2 : Keep h0 h2 [a] := K0.wr W2 (Or.inl (List.mem_of_getElem? (i := 0) rfl))
  show GoP p e below Φ (T2.setTop (mkF m 10 #[.val (.ref a), .val (.long q1), .second] []))
  refine own_aloadN X2 hx hby d_prog_56_method_6_code_10 rfl rfl (pc' := 11) rfl ?_
  obtain ⟨T5, X5, e5, st5⟩ := getF X2 hx hZ hown (host := "") (Or.inl (own_w hw 14 rfl)) Via.refl e2 F4_left (g := (mkF m 11 #[.val (.ref a), .val (.long q1), .second] [(.ref a)])) rfl rfl (hb hby d_prog_56_method_6_code_11)
  refine own_step st5 ?_
  show GoP p e below Φ (T5.setTop (mkF m 14 #[.val (.ref a), .val (.long q1), .second] [(.long (w - q1))]))
  refine own_lconst X5 hx hby d_prog_56_method_6_code_14 (v := (0 : Int64)) rfl (pc' := 15) rfl ?_
  refine own_lcmp X5 hx hby d_prog_56_method_6_code_15 (pc' := 16) rfl ?_
  refine own_ifY X5 hx hby d_prog_56_method_6_code_16 ((if0 _ _).trans (flt (fun q => hn ((lw_lt _ _).mp q))).2.1) (by decide) (pc' := 23) (by decide) ?_
  exact own_ret0 X5 hx hby fin hret d_prog_56_method_6_code_23 (by decide) (by decide) (by rw [e5]; exact ⟨rfl, N2, K2, E3_a, F4_left⟩)
theorem ef_rm0 (m : MethodId) (x0 : Int64) (x1 : Int64) (x2 : Int64) (x3 : Int64) (x4 : Int32) : entryFrame m #[(.long x0), (.long x1), (.long x2), (.long x3), (.int x4)] maxLocals = mkF m 0 #[.val (.long x0), .second, .val (.long x1), .second, .val (.long x2), .second, .val (.long x3), .second, .val (.int x4), .unset, .unset, .unset, .unset, .unset, .unset, .unset, .unset, .unset] [] := by first | (simp [entryFrame, mkF, argsToLocals, Value.category, maxLocals]; done) | rfl
theorem pd__JJ_J : parseMethodDescriptor "(JJ)J" = some ⟨[.long, .long], some .long⟩ := by decide +kernel
theorem pd__J_V : parseMethodDescriptor "(J)V" = some ⟨[.long], none⟩ := by decide +kernel
set_option maxRecDepth 65536 in
set_option maxHeartbeats 40000000 in
theorem rm0 (l : Launch) (Z : State) (a0 : Array Value) (hw : ∀ d ∈ tables_1, d.before a0 Z = true) (q1 q2 q3 q4 : Int64) (p5 : Int32) (n0 : Nat) (h0 : Heap) (Z0 : n0 ≤ h0.size) : Con l Z x code maxLocals ret tables_1 room_1 #[(.long q1), (.long q2), (.long q3), (.long q4), (.int p5)] h0 (fun v h L => v = some (.int 1) ∧ Fr n0 L) := by
  refine Con.of pn_com_example_edictd_edictd_policy_StepsTakePinLaw ?_
  intro p e s m below meth c T X hx hby hml hown hnm hret eT hZ hsh Φ fin
  replace hown : s.vm.findClass "com/example/edictd/edictd/policy/StepsTakePinLaw" = some m.cls := hown
  replace hml : 18 = c.maxLocals := hml.symm
  refine own_step (fun t k => castTop (ef_rm0 m q1 q2 q3 q4 p5) k) ?_
  replace hret : meth.sig.returnType = (some .boolean) := hret
  have N0 := Fr.nil n0
  refine own_iload X hx hby at_0 rfl (pc' := 2) rfl ?_
  refine own_iconst X hx hby at_2 (v := (2 : Int32)) rfl (pc' := 3) rfl ?_
  refine own_iand X hx hby at_3 (pc' := 4) rfl ?_
  by_cases hc4_1 : (p5 &&& (2 : Int32)) = (0 : Int32)
  · refine own_ifY X hx hby at_4 ((if0 _ _).trans (teq hc4_1).1) (by decide) (pc' := 13) (by decide) ?_
    refine own_lloadN X hx hby at_13 rfl (pc' := 14) rfl ?_
    refine own_ldc2J X hx hby hZ hown (own_w hw 0 rfl) at_14 (pc' := 17) rfl ?_
    refine own_land X hx hby at_17 (pc' := 18) rfl ?_
    refine own_lstore X hx hby at_18  (Ls' := #[.val (.long q1), .second, .val (.long q2), .second, .val (.long q3), .second, .val (.long q4), .second, .val (.int p5), .val (.long (q1 &&& (9223372036854775807 : Int64))), .second, .unset, .unset, .unset, .unset, .unset, .unset, .unset]) rfl (pc' := 20) rfl ?_
    obtain ⟨mm, em, hm⟩ : ∃ mm : Int64, mm = (q1 &&& (9223372036854775807 : Int64)) ∧ 0 ≤ mm.toInt := ⟨_, rfl, (by have a := c_maskL q1 (9223372036854775807 : Int64) 63 (by decide) (by decide); omega)⟩
    rw [← em]
    refine own_lloadN X hx hby at_20 rfl (pc' := 21) rfl ?_
    refine own_lload X hx hby at_21 rfl (pc' := 23) rfl ?_
    refine own_callS X hx hby hZ (by exact hml) hown (own_w hw 1 rfl) (own_w hw 2 rfl) (own_w hw 3 rfl) (own_w hw 4 rfl) (by decide) eT 0 (by decide) (by decide) (by decide) (by decide) (argsL := [(.long q2), (.long mm)]) (rest := []) (lenOf pd__JJ_J rfl) rfl (rmU l Z a0 hw q2 mm h0 hm) (Nat.le_of_eq rfl) at_23 (pc' := 26) rfl ?_
    intro v2 T2 L2 X2 hQ2
    obtain ⟨rfl, rfl, e2⟩ := hQ2
    rw [List.append_nil] at X2
    replace e2 : T2.heap = h0 := e2
    show GoP p e below Φ (T2.setTop (mkF m 26 #[.val (.long q1), .second, .val (.long q2), .second, .val (.long q3), .second, .val (.long q4), .second, .val (.int p5), .val (.long mm), .second, .unset, .unset, .unset, .unset, .unset, .unset, .unset] [(.long (own_up q2 mm))]))
    obtain ⟨x1, ex1, bx1⟩ : ∃ z : Int64, z = own_up q2 mm ∧ 0 ≤ z.toInt ∧ z.toInt ≤ (mm).toInt := ⟨_, rfl, own_up_b q2 hm⟩
    rw [← ex1]
    have d1 : (mm - x1).toInt = mm.toInt - x1.toInt := own_sub bx1.1 bx1.2
    have h1 : 0 ≤ (mm - x1).toInt := by omega
    refine own_lstore X2 hx hby at_26  (Ls' := #[.val (.long q1), .second, .val (.long q2), .second, .val (.long q3), .second, .val (.long q4), .second, .val (.int p5), .val (.long mm), .second, .val (.long x1), .second, .unset, .unset, .unset, .unset, .unset]) rfl (pc' := 28) rfl ?_
    refine own_lload X2 hx hby at_28 rfl (pc' := 30) rfl ?_
    refine own_lload X2 hx hby at_30 rfl (pc' := 32) rfl ?_
    refine own_lload X2 hx hby at_32 rfl (pc' := 34) rfl ?_
    refine own_lsub X2 hx hby at_34 (pc' := 35) rfl ?_
    refine own_callS X2 hx hby hZ (by exact hml) hown (own_w hw 1 rfl) (own_w hw 2 rfl) (own_w hw 3 rfl) (own_w hw 4 rfl) (by decide) e2 0 (by decide) (by decide) (by decide) (by decide) (argsL := [(.long q3), (.long (mm - x1))]) (rest := []) (lenOf pd__JJ_J rfl) rfl (rmU l Z a0 hw q3 (mm - x1) h0 h1) (Nat.le_of_eq rfl) at_35 (pc' := 38) rfl ?_
    intro v3 T3 L3 X3 hQ3
    obtain ⟨rfl, rfl, e3⟩ := hQ3
    rw [List.append_nil] at X3
    replace e3 : T3.heap = h0 := e3
    show GoP p e below Φ (T3.setTop (mkF m 38 #[.val (.long q1), .second, .val (.long q2), .second, .val (.long q3), .second, .val (.long q4), .second, .val (.int p5), .val (.long mm), .second, .val (.long x1), .second, .unset, .unset, .unset, .unset, .unset] [(.long (own_up q3 (mm - x1)))]))
    obtain ⟨y1, ey1, by1⟩ : ∃ z : Int64, z = own_up q3 (mm - x1) ∧ 0 ≤ z.toInt ∧ z.toInt ≤ ((mm - x1)).toInt := ⟨_, rfl, own_up_b q3 h1⟩
    rw [← ey1]
    have d2 : ((mm - x1) - y1).toInt = (mm - x1).toInt - y1.toInt := own_sub by1.1 by1.2
    have h2 : 0 ≤ ((mm - x1) - y1).toInt := by omega
    refine own_lstore X3 hx hby at_38  (Ls' := #[.val (.long q1), .second, .val (.long q2), .second, .val (.long q3), .second, .val (.long q4), .second, .val (.int p5), .val (.long mm), .second, .val (.long x1), .second, .val (.long y1), .second, .unset, .unset, .unset]) rfl (pc' := 40) rfl ?_
    refine own_iload X3 hx hby at_40 rfl (pc' := 42) rfl ?_
    refine own_iconst X3 hx hby at_42 (v := (1 : Int32)) rfl (pc' := 43) rfl ?_
    refine own_iand X3 hx hby at_43 (pc' := 44) rfl ?_
    by_cases hc44_4 : (p5 &&& (1 : Int32)) = (0 : Int32)
    · refine own_ifY X3 hx hby at_44 ((if0 _ _).trans (teq hc44_4).1) (by decide) (pc' := 58) (by decide) ?_
      refine own_lload X3 hx hby at_58 rfl (pc' := 60) rfl ?_
      refine own_lload X3 hx hby at_60 rfl (pc' := 62) rfl ?_
      refine own_lload X3 hx hby at_62 rfl (pc' := 64) rfl ?_
      refine own_lsub X3 hx hby at_64 (pc' := 65) rfl ?_
      refine own_lload X3 hx hby at_65 rfl (pc' := 67) rfl ?_
      refine own_lsub X3 hx hby at_67 (pc' := 68) rfl ?_
      refine own_callS X3 hx hby hZ (by exact hml) hown (own_w hw 1 rfl) (own_w hw 2 rfl) (own_w hw 3 rfl) (own_w hw 4 rfl) (by decide) e3 0 (by decide) (by decide) (by decide) (by decide) (argsL := [(.long q4), (.long ((mm - x1) - y1))]) (rest := []) (lenOf pd__JJ_J rfl) rfl (rmU l Z a0 hw q4 ((mm - x1) - y1) h0 h2) (Nat.le_of_eq rfl) at_68 (pc' := 71) rfl ?_
      intro v5 T5 L5 X5 hQ5
      obtain ⟨rfl, rfl, e5⟩ := hQ5
      rw [List.append_nil] at X5
      replace e5 : T5.heap = h0 := e5
      show GoP p e below Φ (T5.setTop (mkF m 71 #[.val (.long q1), .second, .val (.long q2), .second, .val (.long q3), .second, .val (.long q4), .second, .val (.int p5), .val (.long mm), .second, .val (.long x1), .second, .val (.long y1), .second, .unset, .unset, .unset] [(.long (own_up q4 ((mm - x1) - y1)))]))
      obtain ⟨z1, ez1, bz1⟩ : ∃ z : Int64, z = own_up q4 ((mm - x1) - y1) ∧ 0 ≤ z.toInt ∧ z.toInt ≤ (((mm - x1) - y1)).toInt := ⟨_, rfl, own_up_b q4 h2⟩
      rw [← ez1]
      have d3 : (((mm - x1) - y1) - z1).toInt = ((mm - x1) - y1).toInt - z1.toInt := own_sub bz1.1 bz1.2
      have h3 : 0 ≤ (((mm - x1) - y1) - z1).toInt := by omega
      refine own_lstore X5 hx hby at_71  (Ls' := #[.val (.long q1), .second, .val (.long q2), .second, .val (.long q3), .second, .val (.long q4), .second, .val (.int p5), .val (.long mm), .second, .val (.long x1), .second, .val (.long y1), .second, .val (.long z1), .second, .unset]) rfl (pc' := 73) rfl ?_
      obtain ⟨T6, h6, X6, e6, E6, A6, D6, -, st6⟩ := newO X5 hx hZ hown (own_w hw 5 rfl) (own_w hw 6 rfl) (own_w hw 7 rfl) e5 (g := (mkF m 73 #[.val (.long q1), .second, .val (.long q2), .second, .val (.long q3), .second, .val (.long q4), .second, .val (.int p5), .val (.long mm), .second, .val (.long x1), .second, .val (.long y1), .second, .val (.long z1), .second, .unset] [])) rfl (hb hby at_73) (by decide) (by decide)
      obtain ⟨b6, g6⟩ : ∃ z, z = h0.size := ⟨_, rfl⟩
      have Z6 : n0 ≤ h6.size := Nat.le_trans Z0 E6.1
      have n0_b6 : n0 ≤ b6 := g6 ▸ Z0
      rw [← g6] at A6 D6 st6
      refine own_step st6 ?_
      have F6_left : Fld Z h6 b6 "com/example/edictd/edictd/policy/Steps" "left" "J" (.long (0 : Int64)) := D6 (Or.inl (own_w hw 15 rfl)) (ty := .long) (by decide)
      show GoP p e below Φ (T6.setTop (mkF m 76 #[.val (.long q1), .second, .val (.long q2), .second, .val (.long q3), .second, .val (.long q4), .second, .val (.int p5), .val (.long mm), .second, .val (.long x1), .second, .val (.long y1), .second, .val (.long z1), .second, .unset] [(.ref b6)]))
      refine own_dup X6 hx hby at_76 rfl (pc' := 77) rfl ?_
      refine own_lload X6 hx hby at_77 rfl (pc' := 79) rfl ?_
      refine own_callI X6 hx hby hZ (by exact hml) hown rfl (own_w hw 8 rfl) (own_w hw 9 rfl) (own_w hw 7 rfl) (own_w hw 10 rfl) (by decide) e6 1 (by decide) (by decide) (by decide) (by decide) (argsL := [(.long mm)]) (rest := [(.ref b6)]) (lenOf pd__J_V rfl) rfl (Nat.le_of_eq rfl) (rmI l Z a0 hw b6 mm n0 h6 n0_b6 A6 F6_left) at_79 (pc' := 82) rfl ?_
      intro v7 T7 L7 X7 hQ7
      obtain ⟨rfl, Nq7, K7, E7, F7⟩ := hQ7
      have N7 := Fr.app N0 Nq7
      have Z7 : n0 ≤ T7.heap.size := Nat.le_trans Z6 K7.1
      show GoP p e below Φ (T7.setTop (mkF m 82 #[.val (.long q1), .second, .val (.long q2), .second, .val (.long q3), .second, .val (.long q4), .second, .val (.int p5), .val (.long mm), .second, .val (.long x1), .second, .val (.long y1), .second, .val (.long z1), .second, .unset] [(.ref b6)]))
      refine own_astore X7 hx hby at_82 rfl (Ls' := #[.val (.long q1), .second, .val (.long q2), .second, .val (.long q3), .second, .val (.long q4), .second, .val (.int p5), .val (.long mm), .second, .val (.long x1), .second, .val (.long y1), .second, .val (.long z1), .second, .val (.ref b6)]) rfl (pc' := 84) rfl ?_
      refine own_aload X7 hx hby at_84 rfl rfl (pc' := 86) rfl ?_
      refine own_lload X7 hx hby at_86 rfl (pc' := 88) rfl ?_
      refine own_callV X7 hx hby hZ (by exact hml) hown (own_w hw 16 rfl) (own_w hw 17 rfl) (own_w hw 19 rfl) (own_w hw 18 rfl) (own_w hw 7 rfl) (own_w hw 20 rfl) (by decide) rfl 0 (by decide) (by decide) (by decide) (by decide) (argsL := [(.long x1)]) (rest := []) (lenOf pd__J_V rfl) rfl (Nat.le_of_eq rfl) E7 (rmT l Z a0 hw b6 x1 mm n0 T7.heap n0_b6 (own_nneg h1) E7 F7) at_88 (pc' := 91) rfl ?_
      intro v8 T8 L8 X8 hQ8
      obtain ⟨rfl, Nq8, K8, E8, F8⟩ := hQ8
      have N8 := Fr.app N7 Nq8
      have Z8 : n0 ≤ T8.heap.size := Nat.le_trans Z7 K8.1
      show GoP p e below Φ (T8.setTop (mkF m 91 #[.val (.long q1), .second, .val (.long q2), .second, .val (.long q3), .second, .val (.long q4), .second, .val (.int p5), .val (.long mm), .second, .val (.long x1), .second, .val (.long y1), .second, .val (.long z1), .second, .val (.ref b6)] []))
      refine own_aload X8 hx hby at_91 rfl rfl (pc' := 93) rfl ?_
      refine own_lload X8 hx hby at_93 rfl (pc' := 95) rfl ?_
      refine own_callV X8 hx hby hZ (by exact hml) hown (own_w hw 16 rfl) (own_w hw 17 rfl) (own_w hw 19 rfl) (own_w hw 18 rfl) (own_w hw 7 rfl) (own_w hw 20 rfl) (by decide) rfl 0 (by decide) (by decide) (by decide) (by decide) (argsL := [(.long y1)]) (rest := []) (lenOf pd__J_V rfl) rfl (Nat.le_of_eq rfl) E8 (rmT l Z a0 hw b6 y1 (mm - x1) n0 T8.heap n0_b6 (own_nneg h2) E8 F8) at_95 (pc' := 98) rfl ?_
      intro v9 T9 L9 X9 hQ9
      obtain ⟨rfl, Nq9, K9, E9, F9⟩ := hQ9
      have N9 := Fr.app N8 Nq9
      have Z9 : n0 ≤ T9.heap.size := Nat.le_trans Z8 K9.1
      show GoP p e below Φ (T9.setTop (mkF m 98 #[.val (.long q1), .second, .val (.long q2), .second, .val (.long q3), .second, .val (.long q4), .second, .val (.int p5), .val (.long mm), .second, .val (.long x1), .second, .val (.long y1), .second, .val (.long z1), .second, .val (.ref b6)] []))
      refine own_aload X9 hx hby at_98 rfl rfl (pc' := 100) rfl ?_
      refine own_lload X9 hx hby at_100 rfl (pc' := 102) rfl ?_
      refine own_callV X9 hx hby hZ (by exact hml) hown (own_w hw 16 rfl) (own_w hw 17 rfl) (own_w hw 19 rfl) (own_w hw 18 rfl) (own_w hw 7 rfl) (own_w hw 20 rfl) (by decide) rfl 0 (by decide) (by decide) (by decide) (by decide) (argsL := [(.long z1)]) (rest := []) (lenOf pd__J_V rfl) rfl (Nat.le_of_eq rfl) E9 (rmT l Z a0 hw b6 z1 ((mm - x1) - y1) n0 T9.heap n0_b6 (own_nneg h3) E9 F9) at_102 (pc' := 105) rfl ?_
      intro v10 T10 L10 X10 hQ10
      obtain ⟨rfl, Nq10, K10, E10, F10⟩ := hQ10
      have N10 := Fr.app N9 Nq10
      have Z10 : n0 ≤ T10.heap.size := Nat.le_trans Z9 K10.1
      show GoP p e below Φ (T10.setTop (mkF m 105 #[.val (.long q1), .second, .val (.long q2), .second, .val (.long q3), .second, .val (.long q4), .second, .val (.int p5), .val (.long mm), .second, .val (.long x1), .second, .val (.long y1), .second, .val (.long z1), .second, .val (.ref b6)] []))
      refine own_iconst X10 hx hby at_105 (v := (1 : Int32)) rfl (pc' := 106) rfl ?_
      exact own_retN X10 hx hby fin hret (by simp) rfl at_106 (by decide) (by decide) ⟨rfl, N10⟩
    · refine own_ifN X3 hx hby at_44 ((if0 _ _).trans (feq hc44_4).1) (pc' := 47) rfl ?_
      refine own_lload X3 hx hby at_47 rfl (pc' := 49) rfl ?_
      refine own_lload X3 hx hby at_49 rfl (pc' := 51) rfl ?_
      refine own_lsub X3 hx hby at_51 (pc' := 52) rfl ?_
      refine own_lload X3 hx hby at_52 rfl (pc' := 54) rfl ?_
      refine own_lsub X3 hx hby at_54 (pc' := 55) rfl ?_
      refine own_goto X3 hx hby at_55 (by decide) (pc' := 71) (by decide) ?_
      refine own_lstore X3 hx hby at_71  (Ls' := #[.val (.long q1), .second, .val (.long q2), .second, .val (.long q3), .second, .val (.long q4), .second, .val (.int p5), .val (.long mm), .second, .val (.long x1), .second, .val (.long y1), .second, .val (.long ((mm - x1) - y1)), .second, .unset]) rfl (pc' := 73) rfl ?_
      have d3 : (((mm - x1) - y1) - ((mm - x1) - y1)).toInt = ((mm - x1) - y1).toInt - ((mm - x1) - y1).toInt := own_sub h2 (Int.le_refl _)
      have h3 : 0 ≤ (((mm - x1) - y1) - ((mm - x1) - y1)).toInt := by omega
      obtain ⟨T11, h11, X11, e11, E11, A11, D11, -, st11⟩ := newO X3 hx hZ hown (own_w hw 5 rfl) (own_w hw 6 rfl) (own_w hw 7 rfl) e3 (g := (mkF m 73 #[.val (.long q1), .second, .val (.long q2), .second, .val (.long q3), .second, .val (.long q4), .second, .val (.int p5), .val (.long mm), .second, .val (.long x1), .second, .val (.long y1), .second, .val (.long ((mm - x1) - y1)), .second, .unset] [])) rfl (hb hby at_73) (by decide) (by decide)
      obtain ⟨b11, g11⟩ : ∃ z, z = h0.size := ⟨_, rfl⟩
      have Z11 : n0 ≤ h11.size := Nat.le_trans Z0 E11.1
      have n0_b11 : n0 ≤ b11 := g11 ▸ Z0
      rw [← g11] at A11 D11 st11
      refine own_step st11 ?_
      have F11_left : Fld Z h11 b11 "com/example/edictd/edictd/policy/Steps" "left" "J" (.long (0 : Int64)) := D11 (Or.inl (own_w hw 15 rfl)) (ty := .long) (by decide)
      show GoP p e below Φ (T11.setTop (mkF m 76 #[.val (.long q1), .second, .val (.long q2), .second, .val (.long q3), .second, .val (.long q4), .second, .val (.int p5), .val (.long mm), .second, .val (.long x1), .second, .val (.long y1), .second, .val (.long ((mm - x1) - y1)), .second, .unset] [(.ref b11)]))
      refine own_dup X11 hx hby at_76 rfl (pc' := 77) rfl ?_
      refine own_lload X11 hx hby at_77 rfl (pc' := 79) rfl ?_
      refine own_callI X11 hx hby hZ (by exact hml) hown rfl (own_w hw 8 rfl) (own_w hw 9 rfl) (own_w hw 7 rfl) (own_w hw 10 rfl) (by decide) e11 1 (by decide) (by decide) (by decide) (by decide) (argsL := [(.long mm)]) (rest := [(.ref b11)]) (lenOf pd__J_V rfl) rfl (Nat.le_of_eq rfl) (rmI l Z a0 hw b11 mm n0 h11 n0_b11 A11 F11_left) at_79 (pc' := 82) rfl ?_
      intro v12 T12 L12 X12 hQ12
      obtain ⟨rfl, Nq12, K12, E12, F12⟩ := hQ12
      have N12 := Fr.app N0 Nq12
      have Z12 : n0 ≤ T12.heap.size := Nat.le_trans Z11 K12.1
      show GoP p e below Φ (T12.setTop (mkF m 82 #[.val (.long q1), .second, .val (.long q2), .second, .val (.long q3), .second, .val (.long q4), .second, .val (.int p5), .val (.long mm), .second, .val (.long x1), .second, .val (.long y1), .second, .val (.long ((mm - x1) - y1)), .second, .unset] [(.ref b11)]))
      refine own_astore X12 hx hby at_82 rfl (Ls' := #[.val (.long q1), .second, .val (.long q2), .second, .val (.long q3), .second, .val (.long q4), .second, .val (.int p5), .val (.long mm), .second, .val (.long x1), .second, .val (.long y1), .second, .val (.long ((mm - x1) - y1)), .second, .val (.ref b11)]) rfl (pc' := 84) rfl ?_
      refine own_aload X12 hx hby at_84 rfl rfl (pc' := 86) rfl ?_
      refine own_lload X12 hx hby at_86 rfl (pc' := 88) rfl ?_
      refine own_callV X12 hx hby hZ (by exact hml) hown (own_w hw 16 rfl) (own_w hw 17 rfl) (own_w hw 19 rfl) (own_w hw 18 rfl) (own_w hw 7 rfl) (own_w hw 20 rfl) (by decide) rfl 0 (by decide) (by decide) (by decide) (by decide) (argsL := [(.long x1)]) (rest := []) (lenOf pd__J_V rfl) rfl (Nat.le_of_eq rfl) E12 (rmT l Z a0 hw b11 x1 mm n0 T12.heap n0_b11 (own_nneg h1) E12 F12) at_88 (pc' := 91) rfl ?_
      intro v13 T13 L13 X13 hQ13
      obtain ⟨rfl, Nq13, K13, E13, F13⟩ := hQ13
      have N13 := Fr.app N12 Nq13
      have Z13 : n0 ≤ T13.heap.size := Nat.le_trans Z12 K13.1
      show GoP p e below Φ (T13.setTop (mkF m 91 #[.val (.long q1), .second, .val (.long q2), .second, .val (.long q3), .second, .val (.long q4), .second, .val (.int p5), .val (.long mm), .second, .val (.long x1), .second, .val (.long y1), .second, .val (.long ((mm - x1) - y1)), .second, .val (.ref b11)] []))
      refine own_aload X13 hx hby at_91 rfl rfl (pc' := 93) rfl ?_
      refine own_lload X13 hx hby at_93 rfl (pc' := 95) rfl ?_
      refine own_callV X13 hx hby hZ (by exact hml) hown (own_w hw 16 rfl) (own_w hw 17 rfl) (own_w hw 19 rfl) (own_w hw 18 rfl) (own_w hw 7 rfl) (own_w hw 20 rfl) (by decide) rfl 0 (by decide) (by decide) (by decide) (by decide) (argsL := [(.long y1)]) (rest := []) (lenOf pd__J_V rfl) rfl (Nat.le_of_eq rfl) E13 (rmT l Z a0 hw b11 y1 (mm - x1) n0 T13.heap n0_b11 (own_nneg h2) E13 F13) at_95 (pc' := 98) rfl ?_
      intro v14 T14 L14 X14 hQ14
      obtain ⟨rfl, Nq14, K14, E14, F14⟩ := hQ14
      have N14 := Fr.app N13 Nq14
      have Z14 : n0 ≤ T14.heap.size := Nat.le_trans Z13 K14.1
      show GoP p e below Φ (T14.setTop (mkF m 98 #[.val (.long q1), .second, .val (.long q2), .second, .val (.long q3), .second, .val (.long q4), .second, .val (.int p5), .val (.long mm), .second, .val (.long x1), .second, .val (.long y1), .second, .val (.long ((mm - x1) - y1)), .second, .val (.ref b11)] []))
      refine own_aload X14 hx hby at_98 rfl rfl (pc' := 100) rfl ?_
      refine own_lload X14 hx hby at_100 rfl (pc' := 102) rfl ?_
      refine own_callV X14 hx hby hZ (by exact hml) hown (own_w hw 16 rfl) (own_w hw 17 rfl) (own_w hw 19 rfl) (own_w hw 18 rfl) (own_w hw 7 rfl) (own_w hw 20 rfl) (by decide) rfl 0 (by decide) (by decide) (by decide) (by decide) (argsL := [(.long ((mm - x1) - y1))]) (rest := []) (lenOf pd__J_V rfl) rfl (Nat.le_of_eq rfl) E14 (rmT l Z a0 hw b11 ((mm - x1) - y1) ((mm - x1) - y1) n0 T14.heap n0_b11 (own_nneg h3) E14 F14) at_102 (pc' := 105) rfl ?_
      intro v15 T15 L15 X15 hQ15
      obtain ⟨rfl, Nq15, K15, E15, F15⟩ := hQ15
      have N15 := Fr.app N14 Nq15
      have Z15 : n0 ≤ T15.heap.size := Nat.le_trans Z14 K15.1
      show GoP p e below Φ (T15.setTop (mkF m 105 #[.val (.long q1), .second, .val (.long q2), .second, .val (.long q3), .second, .val (.long q4), .second, .val (.int p5), .val (.long mm), .second, .val (.long x1), .second, .val (.long y1), .second, .val (.long ((mm - x1) - y1)), .second, .val (.ref b11)] []))
      refine own_iconst X15 hx hby at_105 (v := (1 : Int32)) rfl (pc' := 106) rfl ?_
      exact own_retN X15 hx hby fin hret (by simp) rfl at_106 (by decide) (by decide) ⟨rfl, N15⟩
  · refine own_ifN X hx hby at_4 ((if0 _ _).trans (feq hc4_1).1) (pc' := 7) rfl ?_
    refine own_ldc2J X hx hby hZ hown (own_w hw 0 rfl) at_7 (pc' := 10) rfl ?_
    refine own_goto X hx hby at_10 (by decide) (pc' := 18) (by decide) ?_
    refine own_lstore X hx hby at_18  (Ls' := #[.val (.long q1), .second, .val (.long q2), .second, .val (.long q3), .second, .val (.long q4), .second, .val (.int p5), .val (.long (9223372036854775807 : Int64)), .second, .unset, .unset, .unset, .unset, .unset, .unset, .unset]) rfl (pc' := 20) rfl ?_
    obtain ⟨mm, em, hm⟩ : ∃ mm : Int64, mm = (9223372036854775807 : Int64) ∧ 0 ≤ mm.toInt := ⟨_, rfl, (by decide)⟩
    rw [← em]
    refine own_lloadN X hx hby at_20 rfl (pc' := 21) rfl ?_
    refine own_lload X hx hby at_21 rfl (pc' := 23) rfl ?_
    refine own_callS X hx hby hZ (by exact hml) hown (own_w hw 1 rfl) (own_w hw 2 rfl) (own_w hw 3 rfl) (own_w hw 4 rfl) (by decide) eT 0 (by decide) (by decide) (by decide) (by decide) (argsL := [(.long q2), (.long mm)]) (rest := []) (lenOf pd__JJ_J rfl) rfl (rmU l Z a0 hw q2 mm h0 hm) (Nat.le_of_eq rfl) at_23 (pc' := 26) rfl ?_
    intro v16 T16 L16 X16 hQ16
    obtain ⟨rfl, rfl, e16⟩ := hQ16
    rw [List.append_nil] at X16
    replace e16 : T16.heap = h0 := e16
    show GoP p e below Φ (T16.setTop (mkF m 26 #[.val (.long q1), .second, .val (.long q2), .second, .val (.long q3), .second, .val (.long q4), .second, .val (.int p5), .val (.long mm), .second, .unset, .unset, .unset, .unset, .unset, .unset, .unset] [(.long (own_up q2 mm))]))
    obtain ⟨x1, ex1, bx1⟩ : ∃ z : Int64, z = own_up q2 mm ∧ 0 ≤ z.toInt ∧ z.toInt ≤ (mm).toInt := ⟨_, rfl, own_up_b q2 hm⟩
    rw [← ex1]
    have d1 : (mm - x1).toInt = mm.toInt - x1.toInt := own_sub bx1.1 bx1.2
    have h1 : 0 ≤ (mm - x1).toInt := by omega
    refine own_lstore X16 hx hby at_26  (Ls' := #[.val (.long q1), .second, .val (.long q2), .second, .val (.long q3), .second, .val (.long q4), .second, .val (.int p5), .val (.long mm), .second, .val (.long x1), .second, .unset, .unset, .unset, .unset, .unset]) rfl (pc' := 28) rfl ?_
    refine own_lload X16 hx hby at_28 rfl (pc' := 30) rfl ?_
    refine own_lload X16 hx hby at_30 rfl (pc' := 32) rfl ?_
    refine own_lload X16 hx hby at_32 rfl (pc' := 34) rfl ?_
    refine own_lsub X16 hx hby at_34 (pc' := 35) rfl ?_
    refine own_callS X16 hx hby hZ (by exact hml) hown (own_w hw 1 rfl) (own_w hw 2 rfl) (own_w hw 3 rfl) (own_w hw 4 rfl) (by decide) e16 0 (by decide) (by decide) (by decide) (by decide) (argsL := [(.long q3), (.long (mm - x1))]) (rest := []) (lenOf pd__JJ_J rfl) rfl (rmU l Z a0 hw q3 (mm - x1) h0 h1) (Nat.le_of_eq rfl) at_35 (pc' := 38) rfl ?_
    intro v17 T17 L17 X17 hQ17
    obtain ⟨rfl, rfl, e17⟩ := hQ17
    rw [List.append_nil] at X17
    replace e17 : T17.heap = h0 := e17
    show GoP p e below Φ (T17.setTop (mkF m 38 #[.val (.long q1), .second, .val (.long q2), .second, .val (.long q3), .second, .val (.long q4), .second, .val (.int p5), .val (.long mm), .second, .val (.long x1), .second, .unset, .unset, .unset, .unset, .unset] [(.long (own_up q3 (mm - x1)))]))
    obtain ⟨y1, ey1, by1⟩ : ∃ z : Int64, z = own_up q3 (mm - x1) ∧ 0 ≤ z.toInt ∧ z.toInt ≤ ((mm - x1)).toInt := ⟨_, rfl, own_up_b q3 h1⟩
    rw [← ey1]
    have d2 : ((mm - x1) - y1).toInt = (mm - x1).toInt - y1.toInt := own_sub by1.1 by1.2
    have h2 : 0 ≤ ((mm - x1) - y1).toInt := by omega
    refine own_lstore X17 hx hby at_38  (Ls' := #[.val (.long q1), .second, .val (.long q2), .second, .val (.long q3), .second, .val (.long q4), .second, .val (.int p5), .val (.long mm), .second, .val (.long x1), .second, .val (.long y1), .second, .unset, .unset, .unset]) rfl (pc' := 40) rfl ?_
    refine own_iload X17 hx hby at_40 rfl (pc' := 42) rfl ?_
    refine own_iconst X17 hx hby at_42 (v := (1 : Int32)) rfl (pc' := 43) rfl ?_
    refine own_iand X17 hx hby at_43 (pc' := 44) rfl ?_
    by_cases hc44_18 : (p5 &&& (1 : Int32)) = (0 : Int32)
    · refine own_ifY X17 hx hby at_44 ((if0 _ _).trans (teq hc44_18).1) (by decide) (pc' := 58) (by decide) ?_
      refine own_lload X17 hx hby at_58 rfl (pc' := 60) rfl ?_
      refine own_lload X17 hx hby at_60 rfl (pc' := 62) rfl ?_
      refine own_lload X17 hx hby at_62 rfl (pc' := 64) rfl ?_
      refine own_lsub X17 hx hby at_64 (pc' := 65) rfl ?_
      refine own_lload X17 hx hby at_65 rfl (pc' := 67) rfl ?_
      refine own_lsub X17 hx hby at_67 (pc' := 68) rfl ?_
      refine own_callS X17 hx hby hZ (by exact hml) hown (own_w hw 1 rfl) (own_w hw 2 rfl) (own_w hw 3 rfl) (own_w hw 4 rfl) (by decide) e17 0 (by decide) (by decide) (by decide) (by decide) (argsL := [(.long q4), (.long ((mm - x1) - y1))]) (rest := []) (lenOf pd__JJ_J rfl) rfl (rmU l Z a0 hw q4 ((mm - x1) - y1) h0 h2) (Nat.le_of_eq rfl) at_68 (pc' := 71) rfl ?_
      intro v19 T19 L19 X19 hQ19
      obtain ⟨rfl, rfl, e19⟩ := hQ19
      rw [List.append_nil] at X19
      replace e19 : T19.heap = h0 := e19
      show GoP p e below Φ (T19.setTop (mkF m 71 #[.val (.long q1), .second, .val (.long q2), .second, .val (.long q3), .second, .val (.long q4), .second, .val (.int p5), .val (.long mm), .second, .val (.long x1), .second, .val (.long y1), .second, .unset, .unset, .unset] [(.long (own_up q4 ((mm - x1) - y1)))]))
      obtain ⟨z1, ez1, bz1⟩ : ∃ z : Int64, z = own_up q4 ((mm - x1) - y1) ∧ 0 ≤ z.toInt ∧ z.toInt ≤ (((mm - x1) - y1)).toInt := ⟨_, rfl, own_up_b q4 h2⟩
      rw [← ez1]
      have d3 : (((mm - x1) - y1) - z1).toInt = ((mm - x1) - y1).toInt - z1.toInt := own_sub bz1.1 bz1.2
      have h3 : 0 ≤ (((mm - x1) - y1) - z1).toInt := by omega
      refine own_lstore X19 hx hby at_71  (Ls' := #[.val (.long q1), .second, .val (.long q2), .second, .val (.long q3), .second, .val (.long q4), .second, .val (.int p5), .val (.long mm), .second, .val (.long x1), .second, .val (.long y1), .second, .val (.long z1), .second, .unset]) rfl (pc' := 73) rfl ?_
      obtain ⟨T20, h20, X20, e20, E20, A20, D20, -, st20⟩ := newO X19 hx hZ hown (own_w hw 5 rfl) (own_w hw 6 rfl) (own_w hw 7 rfl) e19 (g := (mkF m 73 #[.val (.long q1), .second, .val (.long q2), .second, .val (.long q3), .second, .val (.long q4), .second, .val (.int p5), .val (.long mm), .second, .val (.long x1), .second, .val (.long y1), .second, .val (.long z1), .second, .unset] [])) rfl (hb hby at_73) (by decide) (by decide)
      obtain ⟨b20, g20⟩ : ∃ z, z = h0.size := ⟨_, rfl⟩
      have Z20 : n0 ≤ h20.size := Nat.le_trans Z0 E20.1
      have n0_b20 : n0 ≤ b20 := g20 ▸ Z0
      rw [← g20] at A20 D20 st20
      refine own_step st20 ?_
      have F20_left : Fld Z h20 b20 "com/example/edictd/edictd/policy/Steps" "left" "J" (.long (0 : Int64)) := D20 (Or.inl (own_w hw 15 rfl)) (ty := .long) (by decide)
      show GoP p e below Φ (T20.setTop (mkF m 76 #[.val (.long q1), .second, .val (.long q2), .second, .val (.long q3), .second, .val (.long q4), .second, .val (.int p5), .val (.long mm), .second, .val (.long x1), .second, .val (.long y1), .second, .val (.long z1), .second, .unset] [(.ref b20)]))
      refine own_dup X20 hx hby at_76 rfl (pc' := 77) rfl ?_
      refine own_lload X20 hx hby at_77 rfl (pc' := 79) rfl ?_
      refine own_callI X20 hx hby hZ (by exact hml) hown rfl (own_w hw 8 rfl) (own_w hw 9 rfl) (own_w hw 7 rfl) (own_w hw 10 rfl) (by decide) e20 1 (by decide) (by decide) (by decide) (by decide) (argsL := [(.long mm)]) (rest := [(.ref b20)]) (lenOf pd__J_V rfl) rfl (Nat.le_of_eq rfl) (rmI l Z a0 hw b20 mm n0 h20 n0_b20 A20 F20_left) at_79 (pc' := 82) rfl ?_
      intro v21 T21 L21 X21 hQ21
      obtain ⟨rfl, Nq21, K21, E21, F21⟩ := hQ21
      have N21 := Fr.app N0 Nq21
      have Z21 : n0 ≤ T21.heap.size := Nat.le_trans Z20 K21.1
      show GoP p e below Φ (T21.setTop (mkF m 82 #[.val (.long q1), .second, .val (.long q2), .second, .val (.long q3), .second, .val (.long q4), .second, .val (.int p5), .val (.long mm), .second, .val (.long x1), .second, .val (.long y1), .second, .val (.long z1), .second, .unset] [(.ref b20)]))
      refine own_astore X21 hx hby at_82 rfl (Ls' := #[.val (.long q1), .second, .val (.long q2), .second, .val (.long q3), .second, .val (.long q4), .second, .val (.int p5), .val (.long mm), .second, .val (.long x1), .second, .val (.long y1), .second, .val (.long z1), .second, .val (.ref b20)]) rfl (pc' := 84) rfl ?_
      refine own_aload X21 hx hby at_84 rfl rfl (pc' := 86) rfl ?_
      refine own_lload X21 hx hby at_86 rfl (pc' := 88) rfl ?_
      refine own_callV X21 hx hby hZ (by exact hml) hown (own_w hw 16 rfl) (own_w hw 17 rfl) (own_w hw 19 rfl) (own_w hw 18 rfl) (own_w hw 7 rfl) (own_w hw 20 rfl) (by decide) rfl 0 (by decide) (by decide) (by decide) (by decide) (argsL := [(.long x1)]) (rest := []) (lenOf pd__J_V rfl) rfl (Nat.le_of_eq rfl) E21 (rmT l Z a0 hw b20 x1 mm n0 T21.heap n0_b20 (own_nneg h1) E21 F21) at_88 (pc' := 91) rfl ?_
      intro v22 T22 L22 X22 hQ22
      obtain ⟨rfl, Nq22, K22, E22, F22⟩ := hQ22
      have N22 := Fr.app N21 Nq22
      have Z22 : n0 ≤ T22.heap.size := Nat.le_trans Z21 K22.1
      show GoP p e below Φ (T22.setTop (mkF m 91 #[.val (.long q1), .second, .val (.long q2), .second, .val (.long q3), .second, .val (.long q4), .second, .val (.int p5), .val (.long mm), .second, .val (.long x1), .second, .val (.long y1), .second, .val (.long z1), .second, .val (.ref b20)] []))
      refine own_aload X22 hx hby at_91 rfl rfl (pc' := 93) rfl ?_
      refine own_lload X22 hx hby at_93 rfl (pc' := 95) rfl ?_
      refine own_callV X22 hx hby hZ (by exact hml) hown (own_w hw 16 rfl) (own_w hw 17 rfl) (own_w hw 19 rfl) (own_w hw 18 rfl) (own_w hw 7 rfl) (own_w hw 20 rfl) (by decide) rfl 0 (by decide) (by decide) (by decide) (by decide) (argsL := [(.long y1)]) (rest := []) (lenOf pd__J_V rfl) rfl (Nat.le_of_eq rfl) E22 (rmT l Z a0 hw b20 y1 (mm - x1) n0 T22.heap n0_b20 (own_nneg h2) E22 F22) at_95 (pc' := 98) rfl ?_
      intro v23 T23 L23 X23 hQ23
      obtain ⟨rfl, Nq23, K23, E23, F23⟩ := hQ23
      have N23 := Fr.app N22 Nq23
      have Z23 : n0 ≤ T23.heap.size := Nat.le_trans Z22 K23.1
      show GoP p e below Φ (T23.setTop (mkF m 98 #[.val (.long q1), .second, .val (.long q2), .second, .val (.long q3), .second, .val (.long q4), .second, .val (.int p5), .val (.long mm), .second, .val (.long x1), .second, .val (.long y1), .second, .val (.long z1), .second, .val (.ref b20)] []))
      refine own_aload X23 hx hby at_98 rfl rfl (pc' := 100) rfl ?_
      refine own_lload X23 hx hby at_100 rfl (pc' := 102) rfl ?_
      refine own_callV X23 hx hby hZ (by exact hml) hown (own_w hw 16 rfl) (own_w hw 17 rfl) (own_w hw 19 rfl) (own_w hw 18 rfl) (own_w hw 7 rfl) (own_w hw 20 rfl) (by decide) rfl 0 (by decide) (by decide) (by decide) (by decide) (argsL := [(.long z1)]) (rest := []) (lenOf pd__J_V rfl) rfl (Nat.le_of_eq rfl) E23 (rmT l Z a0 hw b20 z1 ((mm - x1) - y1) n0 T23.heap n0_b20 (own_nneg h3) E23 F23) at_102 (pc' := 105) rfl ?_
      intro v24 T24 L24 X24 hQ24
      obtain ⟨rfl, Nq24, K24, E24, F24⟩ := hQ24
      have N24 := Fr.app N23 Nq24
      have Z24 : n0 ≤ T24.heap.size := Nat.le_trans Z23 K24.1
      show GoP p e below Φ (T24.setTop (mkF m 105 #[.val (.long q1), .second, .val (.long q2), .second, .val (.long q3), .second, .val (.long q4), .second, .val (.int p5), .val (.long mm), .second, .val (.long x1), .second, .val (.long y1), .second, .val (.long z1), .second, .val (.ref b20)] []))
      refine own_iconst X24 hx hby at_105 (v := (1 : Int32)) rfl (pc' := 106) rfl ?_
      exact own_retN X24 hx hby fin hret (by simp) rfl at_106 (by decide) (by decide) ⟨rfl, N24⟩
    · refine own_ifN X17 hx hby at_44 ((if0 _ _).trans (feq hc44_18).1) (pc' := 47) rfl ?_
      refine own_lload X17 hx hby at_47 rfl (pc' := 49) rfl ?_
      refine own_lload X17 hx hby at_49 rfl (pc' := 51) rfl ?_
      refine own_lsub X17 hx hby at_51 (pc' := 52) rfl ?_
      refine own_lload X17 hx hby at_52 rfl (pc' := 54) rfl ?_
      refine own_lsub X17 hx hby at_54 (pc' := 55) rfl ?_
      refine own_goto X17 hx hby at_55 (by decide) (pc' := 71) (by decide) ?_
      refine own_lstore X17 hx hby at_71  (Ls' := #[.val (.long q1), .second, .val (.long q2), .second, .val (.long q3), .second, .val (.long q4), .second, .val (.int p5), .val (.long mm), .second, .val (.long x1), .second, .val (.long y1), .second, .val (.long ((mm - x1) - y1)), .second, .unset]) rfl (pc' := 73) rfl ?_
      have d3 : (((mm - x1) - y1) - ((mm - x1) - y1)).toInt = ((mm - x1) - y1).toInt - ((mm - x1) - y1).toInt := own_sub h2 (Int.le_refl _)
      have h3 : 0 ≤ (((mm - x1) - y1) - ((mm - x1) - y1)).toInt := by omega
      obtain ⟨T25, h25, X25, e25, E25, A25, D25, -, st25⟩ := newO X17 hx hZ hown (own_w hw 5 rfl) (own_w hw 6 rfl) (own_w hw 7 rfl) e17 (g := (mkF m 73 #[.val (.long q1), .second, .val (.long q2), .second, .val (.long q3), .second, .val (.long q4), .second, .val (.int p5), .val (.long mm), .second, .val (.long x1), .second, .val (.long y1), .second, .val (.long ((mm - x1) - y1)), .second, .unset] [])) rfl (hb hby at_73) (by decide) (by decide)
      obtain ⟨b25, g25⟩ : ∃ z, z = h0.size := ⟨_, rfl⟩
      have Z25 : n0 ≤ h25.size := Nat.le_trans Z0 E25.1
      have n0_b25 : n0 ≤ b25 := g25 ▸ Z0
      rw [← g25] at A25 D25 st25
      refine own_step st25 ?_
      have F25_left : Fld Z h25 b25 "com/example/edictd/edictd/policy/Steps" "left" "J" (.long (0 : Int64)) := D25 (Or.inl (own_w hw 15 rfl)) (ty := .long) (by decide)
      show GoP p e below Φ (T25.setTop (mkF m 76 #[.val (.long q1), .second, .val (.long q2), .second, .val (.long q3), .second, .val (.long q4), .second, .val (.int p5), .val (.long mm), .second, .val (.long x1), .second, .val (.long y1), .second, .val (.long ((mm - x1) - y1)), .second, .unset] [(.ref b25)]))
      refine own_dup X25 hx hby at_76 rfl (pc' := 77) rfl ?_
      refine own_lload X25 hx hby at_77 rfl (pc' := 79) rfl ?_
      refine own_callI X25 hx hby hZ (by exact hml) hown rfl (own_w hw 8 rfl) (own_w hw 9 rfl) (own_w hw 7 rfl) (own_w hw 10 rfl) (by decide) e25 1 (by decide) (by decide) (by decide) (by decide) (argsL := [(.long mm)]) (rest := [(.ref b25)]) (lenOf pd__J_V rfl) rfl (Nat.le_of_eq rfl) (rmI l Z a0 hw b25 mm n0 h25 n0_b25 A25 F25_left) at_79 (pc' := 82) rfl ?_
      intro v26 T26 L26 X26 hQ26
      obtain ⟨rfl, Nq26, K26, E26, F26⟩ := hQ26
      have N26 := Fr.app N0 Nq26
      have Z26 : n0 ≤ T26.heap.size := Nat.le_trans Z25 K26.1
      show GoP p e below Φ (T26.setTop (mkF m 82 #[.val (.long q1), .second, .val (.long q2), .second, .val (.long q3), .second, .val (.long q4), .second, .val (.int p5), .val (.long mm), .second, .val (.long x1), .second, .val (.long y1), .second, .val (.long ((mm - x1) - y1)), .second, .unset] [(.ref b25)]))
      refine own_astore X26 hx hby at_82 rfl (Ls' := #[.val (.long q1), .second, .val (.long q2), .second, .val (.long q3), .second, .val (.long q4), .second, .val (.int p5), .val (.long mm), .second, .val (.long x1), .second, .val (.long y1), .second, .val (.long ((mm - x1) - y1)), .second, .val (.ref b25)]) rfl (pc' := 84) rfl ?_
      refine own_aload X26 hx hby at_84 rfl rfl (pc' := 86) rfl ?_
      refine own_lload X26 hx hby at_86 rfl (pc' := 88) rfl ?_
      refine own_callV X26 hx hby hZ (by exact hml) hown (own_w hw 16 rfl) (own_w hw 17 rfl) (own_w hw 19 rfl) (own_w hw 18 rfl) (own_w hw 7 rfl) (own_w hw 20 rfl) (by decide) rfl 0 (by decide) (by decide) (by decide) (by decide) (argsL := [(.long x1)]) (rest := []) (lenOf pd__J_V rfl) rfl (Nat.le_of_eq rfl) E26 (rmT l Z a0 hw b25 x1 mm n0 T26.heap n0_b25 (own_nneg h1) E26 F26) at_88 (pc' := 91) rfl ?_
      intro v27 T27 L27 X27 hQ27
      obtain ⟨rfl, Nq27, K27, E27, F27⟩ := hQ27
      have N27 := Fr.app N26 Nq27
      have Z27 : n0 ≤ T27.heap.size := Nat.le_trans Z26 K27.1
      show GoP p e below Φ (T27.setTop (mkF m 91 #[.val (.long q1), .second, .val (.long q2), .second, .val (.long q3), .second, .val (.long q4), .second, .val (.int p5), .val (.long mm), .second, .val (.long x1), .second, .val (.long y1), .second, .val (.long ((mm - x1) - y1)), .second, .val (.ref b25)] []))
      refine own_aload X27 hx hby at_91 rfl rfl (pc' := 93) rfl ?_
      refine own_lload X27 hx hby at_93 rfl (pc' := 95) rfl ?_
      refine own_callV X27 hx hby hZ (by exact hml) hown (own_w hw 16 rfl) (own_w hw 17 rfl) (own_w hw 19 rfl) (own_w hw 18 rfl) (own_w hw 7 rfl) (own_w hw 20 rfl) (by decide) rfl 0 (by decide) (by decide) (by decide) (by decide) (argsL := [(.long y1)]) (rest := []) (lenOf pd__J_V rfl) rfl (Nat.le_of_eq rfl) E27 (rmT l Z a0 hw b25 y1 (mm - x1) n0 T27.heap n0_b25 (own_nneg h2) E27 F27) at_95 (pc' := 98) rfl ?_
      intro v28 T28 L28 X28 hQ28
      obtain ⟨rfl, Nq28, K28, E28, F28⟩ := hQ28
      have N28 := Fr.app N27 Nq28
      have Z28 : n0 ≤ T28.heap.size := Nat.le_trans Z27 K28.1
      show GoP p e below Φ (T28.setTop (mkF m 98 #[.val (.long q1), .second, .val (.long q2), .second, .val (.long q3), .second, .val (.long q4), .second, .val (.int p5), .val (.long mm), .second, .val (.long x1), .second, .val (.long y1), .second, .val (.long ((mm - x1) - y1)), .second, .val (.ref b25)] []))
      refine own_aload X28 hx hby at_98 rfl rfl (pc' := 100) rfl ?_
      refine own_lload X28 hx hby at_100 rfl (pc' := 102) rfl ?_
      refine own_callV X28 hx hby hZ (by exact hml) hown (own_w hw 16 rfl) (own_w hw 17 rfl) (own_w hw 19 rfl) (own_w hw 18 rfl) (own_w hw 7 rfl) (own_w hw 20 rfl) (by decide) rfl 0 (by decide) (by decide) (by decide) (by decide) (argsL := [(.long ((mm - x1) - y1))]) (rest := []) (lenOf pd__J_V rfl) rfl (Nat.le_of_eq rfl) E28 (rmT l Z a0 hw b25 ((mm - x1) - y1) ((mm - x1) - y1) n0 T28.heap n0_b25 (own_nneg h3) E28 F28) at_102 (pc' := 105) rfl ?_
      intro v29 T29 L29 X29 hQ29
      obtain ⟨rfl, Nq29, K29, E29, F29⟩ := hQ29
      have N29 := Fr.app N28 Nq29
      have Z29 : n0 ≤ T29.heap.size := Nat.le_trans Z28 K29.1
      show GoP p e below Φ (T29.setTop (mkF m 105 #[.val (.long q1), .second, .val (.long q2), .second, .val (.long q3), .second, .val (.long q4), .second, .val (.int p5), .val (.long mm), .second, .val (.long x1), .second, .val (.long y1), .second, .val (.long ((mm - x1) - y1)), .second, .val (.ref b25)] []))
      refine own_iconst X29 hx hby at_105 (v := (1 : Int32)) rfl (pc' := 106) rfl ?_
      exact own_retN X29 hx hby fin hret (by simp) rfl at_106 (by decide) (by decide) ⟨rfl, N29⟩
set_option maxRecDepth 65536 in
set_option maxHeartbeats 40000000 in
theorem comes_1 {Post : Tables → Env → Array Value → State → Outcome → State → Prop} (hpost : ∀ tb e args s v u, (limb_1_1.after args s (.returned v) u = true ∧ limb_1_2.after args s (.returned v) u = true ∧ True) → FrameEnd s (.returned v) u (Jvm.fieldLocs frame_1_writes args s ++ Jvm.arrayLocs frame_1_arrays args s ++ Jvm.staticLocs frame_1_statics s) 16 128 → Post tb e args s (.returned v) u) :
    ArmFor flags0 classFile x code maxLocals ret World_1 tables_1 room_1 Calls_1 rest_1 Pre_1 Post := by
  intro l hfl _ _ p e ha hc hk s m args below hf hA hF happ hP
  obtain ⟨hcalls, hrest, hpre⟩ := hP
  obtain ⟨-, -, -, hnamed, -, -, -, hat⟩ := (Spec.applies_iff hf).mp happ
  obtain ⟨hg, hn⟩ := and_e (Cond.before_iff.mp (show (Jvm.Cond.and given_1 narrow_1).before args s = true from hpre))
  obtain ⟨g0, hg⟩ := and_e hg
  obtain ⟨w0, w1, w2, w3, w4, rfl⟩ : ∃ w0 w1 w2 w3 w4 : Value, args = #[w0, w1, w2, w3, w4] := by
    have hs : args.size = 5 := by simpa [Cond.value, given_1] using g0
    obtain ⟨L⟩ := args
    match L, hs with
    | [w0, w1, w2, w3, w4], _ => exact ⟨w0, w1, w2, w3, w4, rfl⟩
  obtain ⟨q0, hg⟩ := and_e hg
  obtain ⟨q1, hg⟩ := and_e hg
  obtain ⟨q2, hg⟩ := and_e hg
  obtain ⟨q3, hg⟩ := and_e hg
  have q4 := hg
  have hw := fun d (hd : d ∈ tables_1) => atoms_spec (ws := Jvm.Cond.code x code maxLocals ret :: tables_1) hat d (List.mem_cons_of_mem _ hd)
  have hfit : Fit s := fun {y c} hc i hi => by
    obtain ⟨ha, rfl⟩ := Array.getElem?_eq_some_iff.mp hc
    have q := List.all_eq_true.mp ((Array.all_eq_true_iff_forall_mem.mp hF) _ (Array.getElem_mem ha)) i (List.mem_range.mpr hi)
    simpa [Array.getElem?_eq_getElem hi] using q
  obtain ⟨i0, f0⟩ := isL_v q0
  obtain rfl : w0 = (.long i0) := Option.some.inj f0
  obtain ⟨i1, f1⟩ := isL_v q1
  obtain rfl : w1 = (.long i1) := Option.some.inj f1
  obtain ⟨i2, f2⟩ := isL_v q2
  obtain rfl : w2 = (.long i2) := Option.some.inj f2
  obtain ⟨i3, f3⟩ := isL_v q3
  obtain rfl : w3 = (.long i3) := Option.some.inj f3
  obtain ⟨i4, f4⟩ := is_v q4
  obtain rfl : w4 = (.int i4) := Option.some.inj f4
  obtain ⟨n, o, h1, h2, h3, _, L, rfl, ⟨rfl, N⟩, hq⟩ := rm0 l s _ hw i0 i1 i2 i3 i4 s.heap.size s.heap (Nat.le_refl _) p e ha hc hk s m _ below hf ((Spec.applies_iff_loose hf).mp happ).1 ⟨rfl, State.Warmed39.refl s, rfl⟩ trivial
  refine ⟨n, _, h1, h2, h3, hpost _ _ _ _ _ _ ⟨Cond.after_iff.mpr rfl, Cond.after_iff.mpr (eq_i res_at (Term.int_eval (1)) rfl), trivial⟩ ⟨hq.1, hq.2.1, (hq.2.2.sift fun y hy => Or.inr (N y hy)).mono (by decide) (by decide)⟩⟩
theorem main_1_1 : Claimed_1_1 := comes_1 fun _ _ _ _ _ _ h hF => ⟨h.1, hF⟩
theorem main_1_2 : Claimed_1_2 := comes_1 fun _ _ _ _ _ _ h hF => ⟨h.2.1, hF⟩
end Jvm.Pilot.@@N@@
namespace Jvm.Pilot.@@N@@
open Jvm Jvm.ClassFile Sem Op Lib Jvm.Free Jvm.Stand Jvm.Pilot.@@N@@.Jvm.D
/-! MADE BY PROGRAM (witnessworld.py) out of the Statement's table words and the real class files: 9 classes; the members and pool entries that the words name. The judged class is class 1, her method 1. -/
namespace start1
open Jvm.ClassFile
def u (s : String) : CpInfo := .utf8 (stringToUtf16 s)
/-- a pool by its gaps: so many unusable entries, then the entry; so many at the end -/
def gap : Nat → List CpInfo → List CpInfo
  | 0, r => r
  | n + 1, r => .unusable :: gap n r
def poolList (es : List (Nat × CpInfo)) (last : Nat) : List CpInfo := es.foldr (fun e r => gap e.1 (e.2 :: r)) (gap last [])
def pool (es : List (Nat × CpInfo)) (last : Nat) : Array CpInfo := ⟨poolList es last⟩
def fileOf (pool : Array CpInfo) (this : Nat) (attrs : Array Attribute := #[]) (ms : Array MethodInfo := #[]) (fl : Nat := 33) (sup : Nat := 0) (ifs : Array Nat := #[]) (fds : Array FieldInfo := #[]) : ClassFile where
  minorVersion := 0
  majorVersion := 65
  constantPool := pool
  accessFlags := fl
  thisClass := this
  superClass := sup
  interfaces := ifs
  fields := fds
  methods := ms
  attributes := attrs
def plain (name : String) (sup : Option ClassId) : Class where
  name := name
  kind := .ordinary
  loader := none
  accessFlags := 33
  super := sup
  interfaces := #[]
  cf := none
  fields := #[]
  methods := #[]
  instanceTypes := #[]
  staticTypes := #[]
  resolved := #[]
  callSites := []
  init := .initialized
  statics := none
  mirror := none

def pool0 : Array CpInfo := pool [(5, u "<init>"), (0, u "()V"), (1, .class_ 10), (1, u "java/lang/Object")] 113

def k0c0 : Code := { maxStack := 0, maxLocals := 1, code := object_method_1_code, exceptionTable := #[], attributes := #[] }
def k0m0 : Method := { name := "<init>", desc := "()V", sig := { parameters := [], returnType := none }, accessFlags := 1, code := some k0c0 }
/-- java/lang/Object -/
def k0 : Class := { plain "java/lang/Object" none with
  accessFlags := 33
  interfaces := #[]
  cf := some (fileOf pool0 8 #[] #[{ accessFlags := 1, nameIndex := 5, descriptorIndex := 6, attributes := #[] }] 33 0 #[] #[])
  fields := #[]
  methods := #[k0m0]
  instanceTypes := #[]
  staticTypes := #[]
  resolved := Array.replicate 124 none
  statics := none }

def pool1 : Array CpInfo := pool [(2, .class_ 4), (1, u "java/lang/Object"), (0, u "<init>"), (0, u "()V"), (2, .long 9223372036854775807), (1, .methodref 12 13), (0, .class_ 14), (0, .nameAndType 15 16), (0, u "com/example/edictd/edictd/policy/StepsTakePinLaw"), (0, u "upTo"), (0, u "(JJ)J"), (0, .class_ 18), (0, u "com/example/edictd/edictd/policy/Steps"), (0, .methodref 17 20), (0, .nameAndType 5 21), (0, u "(J)V"), (0, .methodref 17 23), (0, .nameAndType 24 21), (0, u "take"), (2, u "law"), (0, u "(JJJJI)Z")] 3

def k1m0 : Method := { name := "<init>", desc := "()V", sig := { parameters := [], returnType := none }, accessFlags := 1, code := none }
def k1c1 : Code := { maxStack := 6, maxLocals := 18, code := code, exceptionTable := #[], attributes := #[] }
def k1m1 : Method := { name := "law", desc := "(JJJJI)Z", sig := { parameters := [.long, .long, .long, .long, .int], returnType := some .boolean }, accessFlags := 9, code := some k1c1 }
def k1c2 : Code := { maxStack := 6, maxLocals := 6, code := method_3_code, exceptionTable := #[], attributes := #[] }
def k1m2 : Method := { name := "upTo", desc := "(JJ)J", sig := { parameters := [.long, .long], returnType := some .long }, accessFlags := 10, code := some k1c2 }
/-- com/example/edictd/edictd/policy/StepsTakePinLaw -/
def k1 : Class := { plain "com/example/edictd/edictd/policy/StepsTakePinLaw" (some 0) with
  accessFlags := 49
  interfaces := #[]
  cf := some (fileOf pool1 12 #[] #[{ accessFlags := 1, nameIndex := 5, descriptorIndex := 6, attributes := #[] }, { accessFlags := 9, nameIndex := 27, descriptorIndex := 28, attributes := #[] }, { accessFlags := 10, nameIndex := 15, descriptorIndex := 16, attributes := #[] }] 49 2 #[] #[])
  fields := #[]
  methods := #[k1m0, k1m1, k1m2]
  instanceTypes := #[]
  staticTypes := #[]
  resolved := Array.replicate 32 none
  statics := none }

def pool2 : Array CpInfo := pool [(1, .methodref 2 3), (0, .class_ 4), (0, .nameAndType 5 6), (0, u "java/lang/Object"), (0, u "<init>"), (0, u "()V"), (0, .fieldref 8 9), (0, .class_ 10), (0, .nameAndType 11 12), (0, u "com/example/edictd/edictd/policy/Steps"), (0, u "left"), (0, u "J"), (6, u "(J)V"), (53, .class_ 74), (0, u "com/example/edictd/edictd/policy/Steps$Exhausted"), (7, u "EXHAUSTED"), (0, u "Lcom/example/edictd/edictd/policy/Steps$Exhausted;"), (1, u "PER_PATTERN"), (1, u "PER_RULE"), (0, u "PER_RUN"), (0, u "PER_VALUE"), (0, u "PER_PLACE"), (2, u "PER_CLAUSE"), (16, u "take")] 6

def k2c0 : Code := { maxStack := 3, maxLocals := 3, code := prog_56_method_1_code, exceptionTable := #[], attributes := #[] }
def k2m0 : Method := { name := "<init>", desc := "(J)V", sig := { parameters := [.long], returnType := none }, accessFlags := 0, code := some k2c0 }
def k2c1 : Code := { maxStack := 5, maxLocals := 3, code := prog_56_method_6_code, exceptionTable := #[], attributes := #[] }
def k2m1 : Method := { name := "take", desc := "(J)V", sig := { parameters := [.long], returnType := none }, accessFlags := 0, code := some k2c1 }
/-- com/example/edictd/edictd/policy/Steps -/
def k2 : Class := { plain "com/example/edictd/edictd/policy/Steps" (some 0) with
  accessFlags := 48
  interfaces := #[]
  cf := some (fileOf pool2 8 #[.nestMembers #[73]] #[{ accessFlags := 0, nameIndex := 5, descriptorIndex := 19, attributes := #[] }, { accessFlags := 0, nameIndex := 110, descriptorIndex := 19, attributes := #[] }] 48 2 #[] #[{ accessFlags := 24, nameIndex := 85, descriptorIndex := 12, attributes := #[] }, { accessFlags := 24, nameIndex := 87, descriptorIndex := 12, attributes := #[] }, { accessFlags := 24, nameIndex := 88, descriptorIndex := 12, attributes := #[] }, { accessFlags := 24, nameIndex := 89, descriptorIndex := 12, attributes := #[] }, { accessFlags := 24, nameIndex := 90, descriptorIndex := 12, attributes := #[] }, { accessFlags := 24, nameIndex := 93, descriptorIndex := 12, attributes := #[] }, { accessFlags := 26, nameIndex := 82, descriptorIndex := 83, attributes := #[] }, { accessFlags := 2, nameIndex := 11, descriptorIndex := 12, attributes := #[] }])
  fields := #[{ name := "PER_PATTERN", type := .long, accessFlags := 24, slot := 0, constantValue := 0 }, { name := "PER_RULE", type := .long, accessFlags := 24, slot := 1, constantValue := 0 }, { name := "PER_RUN", type := .long, accessFlags := 24, slot := 2, constantValue := 0 }, { name := "PER_VALUE", type := .long, accessFlags := 24, slot := 3, constantValue := 0 }, { name := "PER_PLACE", type := .long, accessFlags := 24, slot := 4, constantValue := 0 }, { name := "PER_CLAUSE", type := .long, accessFlags := 24, slot := 5, constantValue := 0 }, { name := "EXHAUSTED", type := (.object "com/example/edictd/edictd/policy/Steps$Exhausted"), accessFlags := 26, slot := 6, constantValue := 0 }, { name := "left", type := .long, accessFlags := 2, slot := 0, constantValue := 0 }]
  methods := #[k2m0, k2m1]
  instanceTypes := #[.long]
  staticTypes := #[.long, .long, .long, .long, .long, .long, (.object "com/example/edictd/edictd/policy/Steps$Exhausted")]
  resolved := Array.replicate 117 none
  statics := none }

def pool3 : Array CpInfo := pool [(1, u "java/lang/Cloneable"), (0, .class_ 1), (0, u "java/lang/Object"), (0, .class_ 3)] 3

/-- java/lang/Cloneable -/
def k3 : Class := { plain "java/lang/Cloneable" (some 0) with
  accessFlags := 1537
  interfaces := #[]
  cf := some (fileOf pool3 2 #[] #[] 1537 4 #[] #[])
  fields := #[]
  methods := #[]
  instanceTypes := #[]
  staticTypes := #[]
  resolved := Array.replicate 8 none
  statics := none }

def pool4 : Array CpInfo := pool [(1, u "java/io/Serializable"), (0, .class_ 1), (0, u "java/lang/Object"), (0, .class_ 3)] 3

/-- java/io/Serializable -/
def k4 : Class := { plain "java/io/Serializable" (some 0) with
  accessFlags := 1537
  interfaces := #[]
  cf := some (fileOf pool4 2 #[] #[] 1537 4 #[] #[])
  fields := #[]
  methods := #[]
  instanceTypes := #[]
  staticTypes := #[]
  resolved := Array.replicate 8 none
  statics := none }

/-- the primitive byte -/
def k5 : Class := { plain "byte" none with kind := .primitive 'B', accessFlags := 0x411 }
/-- [B -/
def k6 : Class := { plain "[B" (some 0) with kind := .array 5 .byte, interfaces := #[3, 4], accessFlags := 1041 }

/-- the primitive int -/
def k7 : Class := { plain "int" none with kind := .primitive 'I', accessFlags := 0x411 }
/-- [I -/
def k8 : Class := { plain "[I" (some 0) with kind := .array 7 .int, interfaces := #[3, 4], accessFlags := 1041 }

def heap : Heap := #[]
def classes : Array Class := #[k0, k1, k2, k3, k4, k5, k6, k7, k8]
def interned : List (Array UInt16 × Addr) := []
def slotsUsed : Nat := 0
def theMethod : MethodId := ⟨1, 1⟩
def args0 : Array Value := #[.long 5, .long 7, .long 9, .long 11, .int 3]
def aboutOver (below : List Frame) : State where
  vm := { classes := classes, interned := interned.toArray }
  heap := heap
  slotsUsed := slotsUsed
  threads := #[{ frames := .invoking theMethod args0 :: below }]
def below0 : List Frame := [.native { method := ⟨0, 0⟩, args := #[] }]
def about1 : State := aboutOver below0
def p0 : Program := .bare "" "" ""
def e0 : Env := launch0.env 0 0 0
theorem w_frames : about1.frames = Frame.invoking theMethod args0 :: below0 := rfl
set_option maxRecDepth 65536 in
theorem w_args : argsFit about1.vm theMethod args0 = true := by decide +kernel
set_option maxRecDepth 65536 in
theorem w_heap : heapFits about1 = true := by decide +kernel
set_option maxRecDepth 65536 in
theorem w_runnable : about1.curStatus? = some .runnable := by decide +kernel
set_option maxRecDepth 65536 in
theorem w_alone : about1.alone = true := by decide +kernel
set_option maxRecDepth 65536 in
theorem w_named : about1.methodNamed? x = some theMethod := by decide +kernel
set_option maxRecDepth 65536 in
theorem w_hears : about1.hears theMethod below0 = true := by decide +kernel
set_option maxRecDepth 65536 in
theorem w_ripe : about1.ripe theMethod args0 below0 = true := by decide +kernel
theorem w_running : about1.status = .running := rfl
set_option maxRecDepth 65536 in
theorem w_room : about1.hasRoom e0.platform room_1 = true :=
  launch0.hasRoom_least _ room_1 (by decide +kernel) (by decide +kernel) (by decide +kernel) (by decide +kernel) (by decide +kernel) (by decide +kernel)
theorem allAtoms_all (ts : List Jvm.Cond) (a : Array Jvm.Value) (st : Jvm.State) : (allAtoms ts).before a st = ts.all (fun c => c.before a st) := by
  induction ts with
  | nil => rfl
  | cons c t ih =>
    show (Jvm.Cond.and c (allAtoms t)).before a st = _
    rw [Jvm.Cond.before_and, ih, List.all_cons]
def words1 : List Jvm.Cond := Jvm.Cond.code x code maxLocals ret :: tables_1
/-- a 'code' word, met by the world's own term for the bytes: nothing is compared byte by byte -/
theorem code_word {y : MethodName} {bytes : ByteArray} {mx : Nat} {rt : Option FieldType} {a : Array Value} {s : State} {m : MethodId} {meth : Method} {c : Code} (h1 : s.methodNamed? y = some m) (h2 : s.vm.method? m = some meth) (h3 : meth.code = some c) (h4 : c.code = bytes)
    (h5 : (c.maxLocals == mx && c.exceptionTable.isEmpty && decide (c.maxStack ≤ mostOperands) && decide (meth.sig.returnType = rt) && !meth.locks && decide (parseMethodDescriptor y.desc = some meth.sig)) = true) : (Jvm.Cond.code y bytes mx rt).before a s = true := by
  simp only [Bool.and_eq_true, beq_iff_eq, Bool.not_eq_true', decide_eq_true_eq] at h5
  obtain ⟨⟨⟨⟨⟨g1, g2⟩, g3⟩, g4⟩, g5⟩, g6⟩ := h5
  simp [Cond.before, Cond.holds, Cond.value, h1, h2, h3, h4, g1, g2, g3, g4, g5, g6]
def isCode : Jvm.Cond → Bool
  | .code _ _ _ _ => true
  | _ => false
theorem all_split {L : List Jvm.Cond} {P : Jvm.Cond → Bool} (h1 : L.all (fun c => isCode c || P c) = true) (h2 : ∀ c ∈ L.filter isCode, P c = true) : L.all P = true := by
  refine List.all_eq_true.mpr fun c hc => ?_
  have h := List.all_eq_true.mp h1 c hc
  rcases Bool.eq_false_or_eq_true (isCode c) with hi | hi
  · exact h2 c (List.mem_filter.mpr ⟨hc, hi⟩)
  · simpa [hi] using h
set_option maxRecDepth 65536 in
theorem w_c0 : (Jvm.Cond.code x code maxLocals ret).before args0 about1 = true := code_word (m := ⟨1, 1⟩) (meth := k1m1) (c := k1c1) (by decide +kernel) rfl rfl rfl (by decide +kernel)
set_option maxRecDepth 65536 in
theorem w_c1 : (Jvm.Cond.code ({ cls := "com/example/edictd/edictd/policy/StepsTakePinLaw", name := "upTo", desc := "(JJ)J" } : Jvm.MethodName) method_3_code (6 : Nat) (Option.some Jvm.ClassFile.FieldType.long)).before args0 about1 = true := code_word (m := ⟨1, 2⟩) (meth := k1m2) (c := k1c2) (by decide +kernel) rfl rfl rfl (by decide +kernel)
set_option maxRecDepth 65536 in
theorem w_c2 : (Jvm.Cond.code ({ cls := "com/example/edictd/edictd/policy/Steps", name := "<init>", desc := "(J)V" } : Jvm.MethodName) prog_56_method_1_code (3 : Nat) (Option.none : Option Jvm.ClassFile.FieldType)).before args0 about1 = true := code_word (m := ⟨2, 0⟩) (meth := k2m0) (c := k2c0) (by decide +kernel) rfl rfl rfl (by decide +kernel)
set_option maxRecDepth 65536 in
theorem w_c3 : (Jvm.Cond.code ({ cls := "java/lang/Object", name := "<init>", desc := "()V" } : Jvm.MethodName) object_method_1_code (1 : Nat) (Option.none : Option Jvm.ClassFile.FieldType)).before args0 about1 = true := code_word (m := ⟨0, 0⟩) (meth := k0m0) (c := k0c0) (by decide +kernel) rfl rfl rfl (by decide +kernel)
set_option maxRecDepth 65536 in
theorem w_c4 : (Jvm.Cond.code ({ cls := "com/example/edictd/edictd/policy/Steps", name := "take", desc := "(J)V" } : Jvm.MethodName) prog_56_method_6_code (3 : Nat) (Option.none : Option Jvm.ClassFile.FieldType)).before args0 about1 = true := code_word (m := ⟨2, 1⟩) (meth := k2m1) (c := k2c1) (by decide +kernel) rfl rfl rfl (by decide +kernel)
def codes1 : List Jvm.Cond := [Jvm.Cond.code x code maxLocals ret, Jvm.Cond.code ({ cls := "com/example/edictd/edictd/policy/StepsTakePinLaw", name := "upTo", desc := "(JJ)J" } : Jvm.MethodName) method_3_code (6 : Nat) (Option.some Jvm.ClassFile.FieldType.long), Jvm.Cond.code ({ cls := "com/example/edictd/edictd/policy/Steps", name := "<init>", desc := "(J)V" } : Jvm.MethodName) prog_56_method_1_code (3 : Nat) (Option.none : Option Jvm.ClassFile.FieldType), Jvm.Cond.code ({ cls := "java/lang/Object", name := "<init>", desc := "()V" } : Jvm.MethodName) object_method_1_code (1 : Nat) (Option.none : Option Jvm.ClassFile.FieldType), Jvm.Cond.code ({ cls := "com/example/edictd/edictd/policy/Steps", name := "take", desc := "(J)V" } : Jvm.MethodName) prog_56_method_6_code (3 : Nat) (Option.none : Option Jvm.ClassFile.FieldType)]
set_option maxRecDepth 65536 in
theorem codes_eq : words1.filter isCode = codes1 := rfl
theorem w_codes : ∀ c ∈ words1.filter isCode, c.before args0 about1 = true := by
  rw [codes_eq]
  intro c hc
  simp only [codes1, List.mem_cons, List.not_mem_nil, or_false] at hc
  rcases hc with rfl | rfl | rfl | rfl | rfl
  · exact w_c0
  · exact w_c1
  · exact w_c2
  · exact w_c3
  · exact w_c4
set_option maxRecDepth 65536 in
theorem w_t1 : words1.all (fun c => isCode c || c.before args0 about1) = true := by decide +kernel
theorem w_tables : (allAtoms (Jvm.Cond.code x code maxLocals ret :: tables_1)).before args0 about1 = true := by
  rw [allAtoms_all]
  show words1.all (fun c => c.before args0 about1) = true
  refine all_split ?_ w_codes
  rw [w_t1]
set_option maxRecDepth 65536 in
theorem w_case : (Jvm.Cond.and given_1 narrow_1).before args0 about1 = true := by decide +kernel
theorem w_applies : (headSpec (Jvm.Cond.code x code maxLocals ret :: tables_1) room_1).applies x e0.platform about1 = true :=
  (Spec.applies_iff w_frames).mpr ⟨w_running, w_runnable, w_alone, w_named, w_hears, w_ripe, w_room, w_tables⟩
theorem atStart : AtStart classFile x code maxLocals ret World_1 tables_1 room_1 Calls_1 rest_1 Pre_1 launch0 p0 e0 about1 theMethod args0 below0 :=
  ⟨lists_1, trivial, launch0.admits_env _ _ _, launch0.least_env, fairChoices_fair.cas, fairChoices_fair.clock, w_frames, w_args, w_heap, w_applies, trivial, trivial, w_case⟩
end start1
theorem witness_1 : WitnessClaimed_1 := ⟨start1.p0, start1.e0, start1.about1, start1.theMethod, start1.args0, start1.below0, start1.atStart⟩
end Jvm.Pilot.@@N@@
