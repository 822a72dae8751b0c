import JvmDerived
import JvmDerived.Pilot.@@N@@Statement
import JvmDerived.Pilot.@@N@@Code
set_option linter.unusedVariables false
set_option linter.unusedSimpArgs false
namespace Jvm.Pilot.@@N@@
open Jvm Jvm.ClassFile Sem Op Lib Jvm.Free Jvm.Stand Jvm.LawKit Jvm.RoadKit Bundle Jvm.Pilot.@@N@@.Jvm.D
section OwnKit
variable {p : Program} {l : Launch} {e : Env} {R : Room} {s : State} {m : MethodId} {args : Array Value} {below : List Frame} {meth : Method} {c : Code} {T : State} {locs : List Loc} {cells slots : Nat} {bytes : ByteArray} {Φ : State → Prop} {pc pc' : Nat} {Ls Ls' : Array Slot} {rest : List Value} {Z : State} {a0 : Array Value} {h : Heap}
/-- the run from A ends in a state with the property Φ -/
def GoP (p : Program) (e : Env) (below : List Frame) (Φ : State → Prop) (A : State) : Prop := ∃ t, Steps p.tables e below A t ∧ Φ t
theorem own_step {A B : State} (h : ∀ t, Steps p.tables e below B t → Steps p.tables e below A t) (g : GoP p e below Φ B) : GoP p e below Φ A := by
  obtain ⟨t, h1, h2⟩ := g; exact ⟨t, h t h1, h2⟩
theorem own_trans {A B : State} (h : Steps p.tables e below A B) (g : GoP p e below Φ B) : GoP p e below Φ A := by
  obtain ⟨t, h1, h2⟩ := g; exact ⟨t, h.trans h1, h2⟩
theorem own_w {L : List Jvm.Cond} (hw : ∀ d ∈ L, d.before a0 Z = true) (i : Nat) {d : Jvm.Cond} (q : L[i]? = some d) : d.before a0 Z = true := hw d (List.mem_of_getElem? q)

theorem own_iload (X : Stand p l e R s m args below meth c T locs cells slots) (hx : p.tables.exec = Jvm.exec) (hby : c.code = bytes) {k : Nat} {x : Int32} (hd : decode bytes pc = .ok (.iload k, 2)) (hl : Ls[k]? = some (.val (.int x))) (hp : pc + 2 = pc') (k : GoP p e below Φ (T.setTop (mkF m pc' Ls (.int x :: rest)))) : GoP p e below Φ (T.setTop (mkF m pc Ls (rest))) := by
  subst hp
  exact own_step (fun t q => XS.iload X.here hx rfl (hb hby hd) hl q) k
theorem own_iloadN (X : Stand p l e R s m args below meth c T locs cells slots) (hx : p.tables.exec = Jvm.exec) (hby : c.code = bytes) {k : Fin 4} {x : Int32} (hd : decode bytes pc = .ok (.iload_n k, 1)) (hl : Ls[k.val]? = some (.val (.int x))) (hp : pc + 1 = pc') (k : GoP p e below Φ (T.setTop (mkF m pc' Ls (.int x :: rest)))) : GoP p e below Φ (T.setTop (mkF m pc Ls (rest))) := by
  subst hp
  exact own_step (fun t q => XS.iloadN X.here hx rfl (hb hby hd) hl q) k
theorem own_istore (X : Stand p l e R s m args below meth c T locs cells slots) (hx : p.tables.exec = Jvm.exec) (hby : c.code = bytes) {k : Nat} {x : Int32} (hd : decode bytes pc = .ok (.istore k, 2)) (hl : storeLocals Ls k (.int x) = some Ls') (hp : pc + 2 = pc') (k : GoP p e below Φ (T.setTop (mkF m pc' Ls' (rest)))) : GoP p e below Φ (T.setTop (mkF m pc Ls (.int x :: rest))) := by
  subst hp
  exact own_step (fun t q => XS.istore X.here hx rfl (hb hby hd) rfl hl q) k
theorem own_istoreN (X : Stand p l e R s m args below meth c T locs cells slots) (hx : p.tables.exec = Jvm.exec) (hby : c.code = bytes) {k : Fin 4} {x : Int32} (hd : decode bytes pc = .ok (.istore_n k, 1)) (hl : storeLocals Ls k.val (.int x) = some Ls') (hp : pc + 1 = pc') (k : GoP p e below Φ (T.setTop (mkF m pc' Ls' (rest)))) : GoP p e below Φ (T.setTop (mkF m pc Ls (.int x :: rest))) := by
  subst hp
  exact own_step (fun t q => XS.istoreN X.here hx rfl (hb hby hd) rfl hl q) k
theorem own_lload (X : Stand p l e R s m args below meth c T locs cells slots) (hx : p.tables.exec = Jvm.exec) (hby : c.code = bytes) {k : Nat} {x : Int64} (hd : decode bytes pc = .ok (.lload k, 2)) (hl : Ls[k]? = some (.val (.long x))) (hp : pc + 2 = pc') (k : GoP p e below Φ (T.setTop (mkF m pc' Ls (.long x :: rest)))) : GoP p e below Φ (T.setTop (mkF m pc Ls (rest))) := by
  subst hp
  exact own_step (fun t q => XS.lload X.here hx rfl (hb hby hd) hl q) k
theorem own_lloadN (X : Stand p l e R s m args below meth c T locs cells slots) (hx : p.tables.exec = Jvm.exec) (hby : c.code = bytes) {k : Fin 4} {x : Int64} (hd : decode bytes pc = .ok (.lload_n k, 1)) (hl : Ls[k.val]? = some (.val (.long x))) (hp : pc + 1 = pc') (k : GoP p e below Φ (T.setTop (mkF m pc' Ls (.long x :: rest)))) : GoP p e below Φ (T.setTop (mkF m pc Ls (rest))) := by
  subst hp
  exact own_step (fun t q => XS.lloadN X.here hx rfl (hb hby hd) hl q) k
theorem own_lstore (X : Stand p l e R s m args below meth c T locs cells slots) (hx : p.tables.exec = Jvm.exec) (hby : c.code = bytes) {k : Nat} {x : Int64} (hd : decode bytes pc = .ok (.lstore k, 2)) (hl : storeLocals Ls k (.long x) = some Ls') (hp : pc + 2 = pc') (k : GoP p e below Φ (T.setTop (mkF m pc' Ls' (rest)))) : GoP p e below Φ (T.setTop (mkF m pc Ls (.long x :: rest))) := by
  subst hp
  exact own_step (fun t q => XS.lstore X.here hx rfl (hb hby hd) rfl hl q) k
theorem own_lstoreN (X : Stand p l e R s m args below meth c T locs cells slots) (hx : p.tables.exec = Jvm.exec) (hby : c.code = bytes) {k : Fin 4} {x : Int64} (hd : decode bytes pc = .ok (.lstore_n k, 1)) (hl : storeLocals Ls k.val (.long x) = some Ls') (hp : pc + 1 = pc') (k : GoP p e below Φ (T.setTop (mkF m pc' Ls' (rest)))) : GoP p e below Φ (T.setTop (mkF m pc Ls (.long x :: rest))) := by
  subst hp
  exact own_step (fun t q => XS.lstoreN X.here hx rfl (hb hby hd) rfl hl q) k
theorem own_aload (X : Stand p l e R s m args below meth c T locs cells slots) (hx : p.tables.exec = Jvm.exec) (hby : c.code = bytes) {k : Nat} {x : Value} (hd : decode bytes pc = .ok (.aload k, 2)) (hl : Ls[k]? = some (.val x)) (hr : x.isRef = true) (hp : pc + 2 = pc') (k : GoP p e below Φ (T.setTop (mkF m pc' Ls (x :: rest)))) : GoP p e below Φ (T.setTop (mkF m pc Ls (rest))) := by
  subst hp
  exact own_step (fun t q => XS.aload X.here hx rfl (hb hby hd) hl hr q) k
theorem own_aloadN (X : Stand p l e R s m args below meth c T locs cells slots) (hx : p.tables.exec = Jvm.exec) (hby : c.code = bytes) {k : Fin 4} {x : Value} (hd : decode bytes pc = .ok (.aload_n k, 1)) (hl : Ls[k.val]? = some (.val x)) (hr : x.isRef = true) (hp : pc + 1 = pc') (k : GoP p e below Φ (T.setTop (mkF m pc' Ls (x :: rest)))) : GoP p e below Φ (T.setTop (mkF m pc Ls (rest))) := by
  subst hp
  exact own_step (fun t q => XS.aloadN X.here hx rfl (hb hby hd) hl hr q) k
theorem own_astore (X : Stand p l e R s m args below meth c T locs cells slots) (hx : p.tables.exec = Jvm.exec) (hby : c.code = bytes) {k : Nat} {x : Value} (hd : decode bytes pc = .ok (.astore k, 2)) (hr : x.isRef = true) (hl : storeLocals Ls k x = some Ls') (hp : pc + 2 = pc') (k : GoP p e below Φ (T.setTop (mkF m pc' Ls' (rest)))) : GoP p e below Φ (T.setTop (mkF m pc Ls (x :: rest))) := by
  subst hp
  exact own_step (fun t q => XS.astore X.here hx rfl (hb hby hd) rfl hr hl q) k
theorem own_astoreN (X : Stand p l e R s m args below meth c T locs cells slots) (hx : p.tables.exec = Jvm.exec) (hby : c.code = bytes) {k : Fin 4} {x : Value} (hd : decode bytes pc = .ok (.astore_n k, 1)) (hr : x.isRef = true) (hl : storeLocals Ls k.val x = some Ls') (hp : pc + 1 = pc') (k : GoP p e below Φ (T.setTop (mkF m pc' Ls' (rest)))) : GoP p e below Φ (T.setTop (mkF m pc Ls (x :: rest))) := by
  subst hp
  exact own_step (fun t q => XS.astoreN X.here hx rfl (hb hby hd) rfl hr hl q) k
theorem own_iadd (X : Stand p l e R s m args below meth c T locs cells slots) (hx : p.tables.exec = Jvm.exec) (hby : c.code = bytes) {x y : Int32} (hd : decode bytes pc = .ok (.iadd, 1)) (hp : pc + 1 = pc') (k : GoP p e below Φ (T.setTop (mkF m pc' Ls (.int (x + y) :: rest)))) : GoP p e below Φ (T.setTop (mkF m pc Ls (.int y :: .int x :: rest))) := by
  subst hp
  exact own_step (fun t q => XS.iadd X.here hx rfl (hb hby hd) rfl q) k
theorem own_ladd (X : Stand p l e R s m args below meth c T locs cells slots) (hx : p.tables.exec = Jvm.exec) (hby : c.code = bytes) {x y : Int64} (hd : decode bytes pc = .ok (.ladd, 1)) (hp : pc + 1 = pc') (k : GoP p e below Φ (T.setTop (mkF m pc' Ls (.long (x + y) :: rest)))) : GoP p e below Φ (T.setTop (mkF m pc Ls (.long y :: .long x :: rest))) := by
  subst hp
  exact own_step (fun t q => XS.ladd X.here hx rfl (hb hby hd) rfl q) k
theorem own_isub (X : Stand p l e R s m args below meth c T locs cells slots) (hx : p.tables.exec = Jvm.exec) (hby : c.code = bytes) {x y : Int32} (hd : decode bytes pc = .ok (.isub, 1)) (hp : pc + 1 = pc') (k : GoP p e below Φ (T.setTop (mkF m pc' Ls (.int (x - y) :: rest)))) : GoP p e below Φ (T.setTop (mkF m pc Ls (.int y :: .int x :: rest))) := by
  subst hp
  exact own_step (fun t q => XS.isub X.here hx rfl (hb hby hd) rfl q) k
theorem own_lsub (X : Stand p l e R s m args below meth c T locs cells slots) (hx : p.tables.exec = Jvm.exec) (hby : c.code = bytes) {x y : Int64} (hd : decode bytes pc = .ok (.lsub, 1)) (hp : pc + 1 = pc') (k : GoP p e below Φ (T.setTop (mkF m pc' Ls (.long (x - y) :: rest)))) : GoP p e below Φ (T.setTop (mkF m pc Ls (.long y :: .long x :: rest))) := by
  subst hp
  exact own_step (fun t q => XS.lsub X.here hx rfl (hb hby hd) rfl q) k
theorem own_imul (X : Stand p l e R s m args below meth c T locs cells slots) (hx : p.tables.exec = Jvm.exec) (hby : c.code = bytes) {x y : Int32} (hd : decode bytes pc = .ok (.imul, 1)) (hp : pc + 1 = pc') (k : GoP p e below Φ (T.setTop (mkF m pc' Ls (.int (x * y) :: rest)))) : GoP p e below Φ (T.setTop (mkF m pc Ls (.int y :: .int x :: rest))) := by
  subst hp
  exact own_step (fun t q => XS.imul X.here hx rfl (hb hby hd) rfl q) k
theorem own_lmul (X : Stand p l e R s m args below meth c T locs cells slots) (hx : p.tables.exec = Jvm.exec) (hby : c.code = bytes) {x y : Int64} (hd : decode bytes pc = .ok (.lmul, 1)) (hp : pc + 1 = pc') (k : GoP p e below Φ (T.setTop (mkF m pc' Ls (.long (x * y) :: rest)))) : GoP p e below Φ (T.setTop (mkF m pc Ls (.long y :: .long x :: rest))) := by
  subst hp
  exact own_step (fun t q => XS.lmul X.here hx rfl (hb hby hd) rfl q) k
theorem own_iand (X : Stand p l e R s m args below meth c T locs cells slots) (hx : p.tables.exec = Jvm.exec) (hby : c.code = bytes) {x y : Int32} (hd : decode bytes pc = .ok (.iand, 1)) (hp : pc + 1 = pc') (k : GoP p e below Φ (T.setTop (mkF m pc' Ls (.int (x &&& y) :: rest)))) : GoP p e below Φ (T.setTop (mkF m pc Ls (.int y :: .int x :: rest))) := by
  subst hp
  exact own_step (fun t q => XS.iand X.here hx rfl (hb hby hd) rfl q) k
theorem own_land (X : Stand p l e R s m args below meth c T locs cells slots) (hx : p.tables.exec = Jvm.exec) (hby : c.code = bytes) {x y : Int64} (hd : decode bytes pc = .ok (.land, 1)) (hp : pc + 1 = pc') (k : GoP p e below Φ (T.setTop (mkF m pc' Ls (.long (x &&& y) :: rest)))) : GoP p e below Φ (T.setTop (mkF m pc Ls (.long y :: .long x :: rest))) := by
  subst hp
  exact own_step (fun t q => XS.land X.here hx rfl (hb hby hd) rfl q) k
theorem own_ior (X : Stand p l e R s m args below meth c T locs cells slots) (hx : p.tables.exec = Jvm.exec) (hby : c.code = bytes) {x y : Int32} (hd : decode bytes pc = .ok (.ior, 1)) (hp : pc + 1 = pc') (k : GoP p e below Φ (T.setTop (mkF m pc' Ls (.int (x ||| y) :: rest)))) : GoP p e below Φ (T.setTop (mkF m pc Ls (.int y :: .int x :: rest))) := by
  subst hp
  exact own_step (fun t q => XS.ior X.here hx rfl (hb hby hd) rfl q) k
theorem own_lor (X : Stand p l e R s m args below meth c T locs cells slots) (hx : p.tables.exec = Jvm.exec) (hby : c.code = bytes) {x y : Int64} (hd : decode bytes pc = .ok (.lor, 1)) (hp : pc + 1 = pc') (k : GoP p e below Φ (T.setTop (mkF m pc' Ls (.long (x ||| y) :: rest)))) : GoP p e below Φ (T.setTop (mkF m pc Ls (.long y :: .long x :: rest))) := by
  subst hp
  exact own_step (fun t q => XS.lor X.here hx rfl (hb hby hd) rfl q) k
theorem own_ixor (X : Stand p l e R s m args below meth c T locs cells slots) (hx : p.tables.exec = Jvm.exec) (hby : c.code = bytes) {x y : Int32} (hd : decode bytes pc = .ok (.ixor, 1)) (hp : pc + 1 = pc') (k : GoP p e below Φ (T.setTop (mkF m pc' Ls (.int (x ^^^ y) :: rest)))) : GoP p e below Φ (T.setTop (mkF m pc Ls (.int y :: .int x :: rest))) := by
  subst hp
  exact own_step (fun t q => XS.ixor X.here hx rfl (hb hby hd) rfl q) k
theorem own_lxor (X : Stand p l e R s m args below meth c T locs cells slots) (hx : p.tables.exec = Jvm.exec) (hby : c.code = bytes) {x y : Int64} (hd : decode bytes pc = .ok (.lxor, 1)) (hp : pc + 1 = pc') (k : GoP p e below Φ (T.setTop (mkF m pc' Ls (.long (x ^^^ y) :: rest)))) : GoP p e below Φ (T.setTop (mkF m pc Ls (.long y :: .long x :: rest))) := by
  subst hp
  exact own_step (fun t q => XS.lxor X.here hx rfl (hb hby hd) rfl q) k
theorem own_ishl (X : Stand p l e R s m args below meth c T locs cells slots) (hx : p.tables.exec = Jvm.exec) (hby : c.code = bytes) {x : Int32} {y : Int32} (hd : decode bytes pc = .ok (.ishl, 1)) (hp : pc + 1 = pc') (k : GoP p e below Φ (T.setTop (mkF m pc' Ls (.int (x <<< (y &&& 31)) :: rest)))) : GoP p e below Φ (T.setTop (mkF m pc Ls (.int y :: .int x :: rest))) := by
  subst hp
  exact own_step (fun t q => XS.ishl X.here hx rfl (hb hby hd) rfl q) k
theorem own_ishr (X : Stand p l e R s m args below meth c T locs cells slots) (hx : p.tables.exec = Jvm.exec) (hby : c.code = bytes) {x : Int32} {y : Int32} (hd : decode bytes pc = .ok (.ishr, 1)) (hp : pc + 1 = pc') (k : GoP p e below Φ (T.setTop (mkF m pc' Ls (.int (x >>> (y &&& 31)) :: rest)))) : GoP p e below Φ (T.setTop (mkF m pc Ls (.int y :: .int x :: rest))) := by
  subst hp
  exact own_step (fun t q => XS.ishr X.here hx rfl (hb hby hd) rfl q) k
theorem own_iushr (X : Stand p l e R s m args below meth c T locs cells slots) (hx : p.tables.exec = Jvm.exec) (hby : c.code = bytes) {x : Int32} {y : Int32} (hd : decode bytes pc = .ok (.iushr, 1)) (hp : pc + 1 = pc') (k : GoP p e below Φ (T.setTop (mkF m pc' Ls (.int ((x.toUInt32 >>> (y &&& 31).toUInt32).toInt32) :: rest)))) : GoP p e below Φ (T.setTop (mkF m pc Ls (.int y :: .int x :: rest))) := by
  subst hp
  exact own_step (fun t q => XS.iushr X.here hx rfl (hb hby hd) rfl q) k
theorem own_lshl (X : Stand p l e R s m args below meth c T locs cells slots) (hx : p.tables.exec = Jvm.exec) (hby : c.code = bytes) {x : Int64} {y : Int32} (hd : decode bytes pc = .ok (.lshl, 1)) (hp : pc + 1 = pc') (k : GoP p e below Φ (T.setTop (mkF m pc' Ls (.long (x <<< (y &&& 0x3f).toInt64) :: rest)))) : GoP p e below Φ (T.setTop (mkF m pc Ls (.int y :: .long x :: rest))) := by
  subst hp
  exact own_step (fun t q => XS.lshl X.here hx rfl (hb hby hd) rfl q) k
theorem own_lshr (X : Stand p l e R s m args below meth c T locs cells slots) (hx : p.tables.exec = Jvm.exec) (hby : c.code = bytes) {x : Int64} {y : Int32} (hd : decode bytes pc = .ok (.lshr, 1)) (hp : pc + 1 = pc') (k : GoP p e below Φ (T.setTop (mkF m pc' Ls (.long (x >>> (y &&& 0x3f).toInt64) :: rest)))) : GoP p e below Φ (T.setTop (mkF m pc Ls (.int y :: .long x :: rest))) := by
  subst hp
  exact own_step (fun t q => XS.lshr X.here hx rfl (hb hby hd) rfl q) k
theorem own_lushr (X : Stand p l e R s m args below meth c T locs cells slots) (hx : p.tables.exec = Jvm.exec) (hby : c.code = bytes) {x : Int64} {y : Int32} (hd : decode bytes pc = .ok (.lushr, 1)) (hp : pc + 1 = pc') (k : GoP p e below Φ (T.setTop (mkF m pc' Ls (.long ((x.toUInt64 >>> (y &&& 0x3f).toInt64.toUInt64).toInt64) :: rest)))) : GoP p e below Φ (T.setTop (mkF m pc Ls (.int y :: .long x :: rest))) := by
  subst hp
  exact own_step (fun t q => XS.lushr X.here hx rfl (hb hby hd) rfl q) k
theorem own_ineg (X : Stand p l e R s m args below meth c T locs cells slots) (hx : p.tables.exec = Jvm.exec) (hby : c.code = bytes) {x : Int32} (hd : decode bytes pc = .ok (.ineg, 1)) (hp : pc + 1 = pc') (k : GoP p e below Φ (T.setTop (mkF m pc' Ls (.int (-x) :: rest)))) : GoP p e below Φ (T.setTop (mkF m pc Ls (.int x :: rest))) := by
  subst hp
  exact own_step (fun t q => XS.ineg X.here hx rfl (hb hby hd) rfl q) k
theorem own_lneg (X : Stand p l e R s m args below meth c T locs cells slots) (hx : p.tables.exec = Jvm.exec) (hby : c.code = bytes) {x : Int64} (hd : decode bytes pc = .ok (.lneg, 1)) (hp : pc + 1 = pc') (k : GoP p e below Φ (T.setTop (mkF m pc' Ls (.long (-x) :: rest)))) : GoP p e below Φ (T.setTop (mkF m pc Ls (.long x :: rest))) := by
  subst hp
  exact own_step (fun t q => XS.lneg X.here hx rfl (hb hby hd) rfl q) k
theorem own_i2l (X : Stand p l e R s m args below meth c T locs cells slots) (hx : p.tables.exec = Jvm.exec) (hby : c.code = bytes) {x : Int32} (hd : decode bytes pc = .ok (.i2l, 1)) (hp : pc + 1 = pc') (k : GoP p e below Φ (T.setTop (mkF m pc' Ls (.long (x.toInt64) :: rest)))) : GoP p e below Φ (T.setTop (mkF m pc Ls (.int x :: rest))) := by
  subst hp
  exact own_step (fun t q => XS.i2l X.here hx rfl (hb hby hd) rfl q) k
theorem own_l2i (X : Stand p l e R s m args below meth c T locs cells slots) (hx : p.tables.exec = Jvm.exec) (hby : c.code = bytes) {x : Int64} (hd : decode bytes pc = .ok (.l2i, 1)) (hp : pc + 1 = pc') (k : GoP p e below Φ (T.setTop (mkF m pc' Ls (.int (x.toInt32) :: rest)))) : GoP p e below Φ (T.setTop (mkF m pc Ls (.long x :: rest))) := by
  subst hp
  exact own_step (fun t q => XS.l2i X.here hx rfl (hb hby hd) rfl q) k
theorem own_i2b (X : Stand p l e R s m args below meth c T locs cells slots) (hx : p.tables.exec = Jvm.exec) (hby : c.code = bytes) {x : Int32} (hd : decode bytes pc = .ok (.i2b, 1)) (hp : pc + 1 = pc') (k : GoP p e below Φ (T.setTop (mkF m pc' Ls (.int (x.toInt8.toInt32) :: rest)))) : GoP p e below Φ (T.setTop (mkF m pc Ls (.int x :: rest))) := by
  subst hp
  exact own_step (fun t q => XS.i2b X.here hx rfl (hb hby hd) rfl q) k
theorem own_i2s (X : Stand p l e R s m args below meth c T locs cells slots) (hx : p.tables.exec = Jvm.exec) (hby : c.code = bytes) {x : Int32} (hd : decode bytes pc = .ok (.i2s, 1)) (hp : pc + 1 = pc') (k : GoP p e below Φ (T.setTop (mkF m pc' Ls (.int (x.toInt16.toInt32) :: rest)))) : GoP p e below Φ (T.setTop (mkF m pc Ls (.int x :: rest))) := by
  subst hp
  exact own_step (fun t q => XS.i2s X.here hx rfl (hb hby hd) rfl q) k
theorem own_i2c (X : Stand p l e R s m args below meth c T locs cells slots) (hx : p.tables.exec = Jvm.exec) (hby : c.code = bytes) {x : Int32} (hd : decode bytes pc = .ok (.i2c, 1)) (hp : pc + 1 = pc') (k : GoP p e below Φ (T.setTop (mkF m pc' Ls (.int (x.toUInt32.toUInt16.toUInt32.toInt32) :: rest)))) : GoP p e below Φ (T.setTop (mkF m pc Ls (.int x :: rest))) := by
  subst hp
  exact own_step (fun t q => XS.i2c X.here hx rfl (hb hby hd) rfl q) k
theorem own_irem (X : Stand p l e R s m args below meth c T locs cells slots) (hx : p.tables.exec = Jvm.exec) (hby : c.code = bytes) {x y : Int32} (hd : decode bytes pc = .ok (.irem, 1)) (hy : y ≠ 0) (hp : pc + 1 = pc') (k : GoP p e below Φ (T.setTop (mkF m pc' Ls (.int (x % y) :: rest)))) : GoP p e below Φ (T.setTop (mkF m pc Ls (.int y :: .int x :: rest))) := by
  subst hp
  exact own_step (fun t q => iremM X hx rfl (hb hby hd) rfl hy q) k
theorem own_idiv (X : Stand p l e R s m args below meth c T locs cells slots) (hx : p.tables.exec = Jvm.exec) (hby : c.code = bytes) {x y : Int32} (hd : decode bytes pc = .ok (.idiv, 1)) (hy : y ≠ 0) (hp : pc + 1 = pc') (k : GoP p e below Φ (T.setTop (mkF m pc' Ls (.int (x / y) :: rest)))) : GoP p e below Φ (T.setTop (mkF m pc Ls (.int y :: .int x :: rest))) := by
  subst hp
  exact own_step (fun t q => XS.idiv X.here hx rfl (hb hby hd) rfl hy q) k
theorem own_ldiv (X : Stand p l e R s m args below meth c T locs cells slots) (hx : p.tables.exec = Jvm.exec) (hby : c.code = bytes) {x y : Int64} (hd : decode bytes pc = .ok (.ldiv, 1)) (hy : y ≠ 0) (hp : pc + 1 = pc') (k : GoP p e below Φ (T.setTop (mkF m pc' Ls (.long (x / y) :: rest)))) : GoP p e below Φ (T.setTop (mkF m pc Ls (.long y :: .long x :: rest))) := by
  subst hp
  exact own_step (fun t q => XS.ldiv X.here hx rfl (hb hby hd) rfl hy q) k
theorem own_lrem (X : Stand p l e R s m args below meth c T locs cells slots) (hx : p.tables.exec = Jvm.exec) (hby : c.code = bytes) {x y : Int64} (hd : decode bytes pc = .ok (.lrem, 1)) (hy : y ≠ 0) (hp : pc + 1 = pc') (k : GoP p e below Φ (T.setTop (mkF m pc' Ls (.long (x % y) :: rest)))) : GoP p e below Φ (T.setTop (mkF m pc Ls (.long y :: .long x :: rest))) := by
  subst hp
  rw [← lrem_mod] at k
  exact own_step (fun t q => XS.lrem X.here hx rfl (hb hby hd) rfl hy q) k
theorem own_lcmp (X : Stand p l e R s m args below meth c T locs cells slots) (hx : p.tables.exec = Jvm.exec) (hby : c.code = bytes) {x y : Int64} (hd : decode bytes pc = .ok (.lcmp, 1)) (hp : pc + 1 = pc') (k : GoP p e below Φ (T.setTop (mkF m pc' Ls (.int (lcmpW x y) :: rest)))) : GoP p e below Φ (T.setTop (mkF m pc Ls (.long y :: .long x :: rest))) := by
  subst hp
  exact own_step (fun t q => XS.lcmp X.here hx rfl (hb hby hd) rfl q) k
theorem own_iconst (X : Stand p l e R s m args below meth c T locs cells slots) (hx : p.tables.exec = Jvm.exec) (hby : c.code = bytes) {i : Int} {v : Int32} (hd : decode bytes pc = .ok (.iconst i, 1)) (hv : Int32.ofInt i = v) (hp : pc + 1 = pc') (k : GoP p e below Φ (T.setTop (mkF m pc' Ls (.int v :: rest)))) : GoP p e below Φ (T.setTop (mkF m pc Ls (rest))) := by
  subst hp hv
  exact own_step (fun t q => XS.iconst X.here hx rfl (hb hby hd) q) k
theorem own_bipush (X : Stand p l e R s m args below meth c T locs cells slots) (hx : p.tables.exec = Jvm.exec) (hby : c.code = bytes) {i : Int} {v : Int32} (hd : decode bytes pc = .ok (.bipush i, 2)) (hv : (Int8.ofInt i).toInt32 = v) (hp : pc + 2 = pc') (k : GoP p e below Φ (T.setTop (mkF m pc' Ls (.int v :: rest)))) : GoP p e below Φ (T.setTop (mkF m pc Ls (rest))) := by
  subst hp hv
  exact own_step (fun t q => XS.bipush X.here hx rfl (hb hby hd) q) k
theorem own_sipush (X : Stand p l e R s m args below meth c T locs cells slots) (hx : p.tables.exec = Jvm.exec) (hby : c.code = bytes) {i : Int} {v : Int32} (hd : decode bytes pc = .ok (.sipush i, 3)) (hv : (Int16.ofInt i).toInt32 = v) (hp : pc + 3 = pc') (k : GoP p e below Φ (T.setTop (mkF m pc' Ls (.int v :: rest)))) : GoP p e below Φ (T.setTop (mkF m pc Ls (rest))) := by
  subst hp hv
  exact own_step (fun t q => XS.sipush X.here hx rfl (hb hby hd) q) k
theorem own_lconst (X : Stand p l e R s m args below meth c T locs cells slots) (hx : p.tables.exec = Jvm.exec) (hby : c.code = bytes) {i : Fin 2} {v : Int64} (hd : decode bytes pc = .ok (.lconst i, 1)) (hv : Int64.ofNat i = v) (hp : pc + 1 = pc') (k : GoP p e below Φ (T.setTop (mkF m pc' Ls (.long v :: rest)))) : GoP p e below Φ (T.setTop (mkF m pc Ls (rest))) := by
  subst hp hv
  exact own_step (fun t q => XS.lconst X.here hx rfl (hb hby hd) q) k
theorem own_aconst_null (X : Stand p l e R s m args below meth c T locs cells slots) (hx : p.tables.exec = Jvm.exec) (hby : c.code = bytes) (hd : decode bytes pc = .ok (.aconst_null, 1)) (hp : pc + 1 = pc') (k : GoP p e below Φ (T.setTop (mkF m pc' Ls (.null :: rest)))) : GoP p e below Φ (T.setTop (mkF m pc Ls (rest))) := by
  subst hp
  exact own_step (fun t q => XS.aconstNull X.here hx rfl (hb hby hd) q) k
theorem own_dup (X : Stand p l e R s m args below meth c T locs cells slots) (hx : p.tables.exec = Jvm.exec) (hby : c.code = bytes) {x : Value} (hd : decode bytes pc = .ok (.dup, 1)) (hc : x.category = 1) (hp : pc + 1 = pc') (k : GoP p e below Φ (T.setTop (mkF m pc' Ls (x :: x :: rest)))) : GoP p e below Φ (T.setTop (mkF m pc Ls (x :: rest))) := by
  subst hp
  exact own_step (fun t q => XS.dup X.here hx rfl (hb hby hd) rfl hc q) k
theorem own_pop (X : Stand p l e R s m args below meth c T locs cells slots) (hx : p.tables.exec = Jvm.exec) (hby : c.code = bytes) {x : Value} (hd : decode bytes pc = .ok (.pop, 1)) (hc : x.category = 1) (hp : pc + 1 = pc') (k : GoP p e below Φ (T.setTop (mkF m pc' Ls (rest)))) : GoP p e below Φ (T.setTop (mkF m pc Ls (x :: rest))) := by
  subst hp
  exact own_step (fun t q => XS.pop X.here hx rfl (hb hby hd) rfl hc q) k
theorem own_dup_x1 (X : Stand p l e R s m args below meth c T locs cells slots) (hx : p.tables.exec = Jvm.exec) (hby : c.code = bytes) {x y : Value} (hd : decode bytes pc = .ok (.dup_x1, 1)) (hc : x.category = 1) (hc' : y.category = 1) (hp : pc + 1 = pc') (k : GoP p e below Φ (T.setTop (mkF m pc' Ls (x :: y :: x :: rest)))) : GoP p e below Φ (T.setTop (mkF m pc Ls (x :: y :: rest))) := by
  subst hp
  exact own_step (fun t q => XS.dupX1 X.here hx rfl (hb hby hd) rfl hc hc' q) k
theorem own_dup2 (X : Stand p l e R s m args below meth c T locs cells slots) (hx : p.tables.exec = Jvm.exec) (hby : c.code = bytes) {x y : Value} (hd : decode bytes pc = .ok (.dup2, 1)) (hc : x.category = 1) (hc' : y.category = 1) (hp : pc + 1 = pc') (k : GoP p e below Φ (T.setTop (mkF m pc' Ls (x :: y :: x :: y :: rest)))) : GoP p e below Φ (T.setTop (mkF m pc Ls (x :: y :: rest))) := by
  subst hp
  exact own_step (fun t q => XT.dup2 X.here hx rfl (hb hby hd) rfl hc hc' q) k
theorem own_dup2L (X : Stand p l e R s m args below meth c T locs cells slots) (hx : p.tables.exec = Jvm.exec) (hby : c.code = bytes) {x : Int64} (hd : decode bytes pc = .ok (.dup2, 1)) (hp : pc + 1 = pc') (k : GoP p e below Φ (T.setTop (mkF m pc' Ls (.long x :: .long x :: rest)))) : GoP p e below Φ (T.setTop (mkF m pc Ls (.long x :: rest))) := by
  subst hp
  exact own_step (fun t q => XT.dup2L X.here hx rfl (hb hby hd) rfl q) k
theorem own_iinc (X : Stand p l e R s m args below meth c T locs cells slots) (hx : p.tables.exec = Jvm.exec) (hby : c.code = bytes) {k0 : Nat} {i : Int} {x v : Int32} (hd : decode bytes pc = .ok (.iinc k0 i, 3)) (hl : Ls[k0]? = some (.val (.int x))) (hv : Int32.ofInt i = v) (hl' : storeLocals Ls k0 (.int (x + v)) = some Ls') (hp : pc + 3 = pc') (k : GoP p e below Φ (T.setTop (mkF m pc' Ls' (rest)))) : GoP p e below Φ (T.setTop (mkF m pc Ls (rest))) := by
  subst hp hv
  exact own_step (fun t q => XS.iinc X.here hx rfl (hb hby hd) hl hl' q) k
theorem own_goto (X : Stand p l e R s m args below meth c T locs cells slots) (hx : p.tables.exec = Jvm.exec) (hby : c.code = bytes) {o : Int} (hd : decode bytes pc = .ok (.goto o, 3)) (ho : 0 ≤ (pc : Int) + o) (hp : ((pc : Int) + o).toNat = pc') (k : GoP p e below Φ (T.setTop (mkF m pc' Ls (rest)))) : GoP p e below Φ (T.setTop (mkF m pc Ls (rest))) :=
  own_step (fun t q => XS.goto X.here hx rfl (pc0 := pc) (pc' := pc') rfl (hb hby hd) ho hp q) k
theorem own_ifY (X : Stand p l e R s m args below meth c T locs cells slots) (hx : p.tables.exec = Jvm.exec) (hby : c.code = bytes) {cd : ClassFile.Cond} {o : Int} {x : Int32} (hd : decode bytes pc = .ok (.ifCond cd o, 3)) (hc : ifCond.holds cd x = true) (ho : 0 ≤ (pc : Int) + o) (hp : ((pc : Int) + o).toNat = pc') (k : GoP p e below Φ (T.setTop (mkF m pc' Ls (rest)))) : GoP p e below Φ (T.setTop (mkF m pc Ls (.int x :: rest))) :=
  own_step (fun t q => XS.ifYes X.here hx rfl (pc0 := pc) (pc' := pc') rfl (hb hby hd) rfl hc ho hp q) k
theorem own_ifN (X : Stand p l e R s m args below meth c T locs cells slots) (hx : p.tables.exec = Jvm.exec) (hby : c.code = bytes) {cd : ClassFile.Cond} {o : Int} {x : Int32} (hd : decode bytes pc = .ok (.ifCond cd o, 3)) (hc : ifCond.holds cd x = false) (hp : pc + 3 = pc') (k : GoP p e below Φ (T.setTop (mkF m pc' Ls (rest)))) : GoP p e below Φ (T.setTop (mkF m pc Ls (.int x :: rest))) := by
  subst hp
  exact own_step (fun t q => XS.ifNo X.here hx rfl (hb hby hd) rfl hc q) k
theorem own_icmpY (X : Stand p l e R s m args below meth c T locs cells slots) (hx : p.tables.exec = Jvm.exec) (hby : c.code = bytes) {cd : ClassFile.Cond} {o : Int} {x y : Int32} (hd : decode bytes pc = .ok (.if_icmp cd o, 3)) (hc : if_icmp.holds cd x y = true) (ho : 0 ≤ (pc : Int) + o) (hp : ((pc : Int) + o).toNat = pc') (k : GoP p e below Φ (T.setTop (mkF m pc' Ls (rest)))) : GoP p e below Φ (T.setTop (mkF m pc Ls (.int y :: .int x :: rest))) :=
  own_step (fun t q => XS.icmpYes X.here hx rfl (pc0 := pc) (pc' := pc') rfl (hb hby hd) rfl hc ho hp q) k
theorem own_icmpN (X : Stand p l e R s m args below meth c T locs cells slots) (hx : p.tables.exec = Jvm.exec) (hby : c.code = bytes) {cd : ClassFile.Cond} {o : Int} {x y : Int32} (hd : decode bytes pc = .ok (.if_icmp cd o, 3)) (hc : if_icmp.holds cd x y = false) (hp : pc + 3 = pc') (k : GoP p e below Φ (T.setTop (mkF m pc' Ls (rest)))) : GoP p e below Φ (T.setTop (mkF m pc Ls (.int y :: .int x :: rest))) := by
  subst hp
  exact own_step (fun t q => XS.icmpNo X.here hx rfl (hb hby hd) rfl hc q) k
theorem own_ifnullY (X : Stand p l e R s m args below meth c T locs cells slots) (hx : p.tables.exec = Jvm.exec) (hby : c.code = bytes) {o : Int} (hd : decode bytes pc = .ok (.ifnull o, 3)) (ho : 0 ≤ (pc : Int) + o) (hp : ((pc : Int) + o).toNat = pc') (k : GoP p e below Φ (T.setTop (mkF m pc' Ls (rest)))) : GoP p e below Φ (T.setTop (mkF m pc Ls (.null :: rest))) :=
  own_step (fun t q => XS.ifnullYes X.here hx rfl (pc0 := pc) (pc' := pc') rfl (hb hby hd) rfl ho hp q) k
theorem own_ifnullN (X : Stand p l e R s m args below meth c T locs cells slots) (hx : p.tables.exec = Jvm.exec) (hby : c.code = bytes) {o : Int} {b : Addr} (hd : decode bytes pc = .ok (.ifnull o, 3)) (hp : pc + 3 = pc') (k : GoP p e below Φ (T.setTop (mkF m pc' Ls (rest)))) : GoP p e below Φ (T.setTop (mkF m pc Ls (.ref b :: rest))) := by
  subst hp
  exact own_step (fun t q => XS.ifnullNo X.here hx rfl (hb hby hd) rfl q) k
theorem own_ifnonnullY (X : Stand p l e R s m args below meth c T locs cells slots) (hx : p.tables.exec = Jvm.exec) (hby : c.code = bytes) {b : Addr} {o : Int} (hd : decode bytes pc = .ok (.ifnonnull o, 3)) (ho : 0 ≤ (pc : Int) + o) (hp : ((pc : Int) + o).toNat = pc') (k : GoP p e below Φ (T.setTop (mkF m pc' Ls (rest)))) : GoP p e below Φ (T.setTop (mkF m pc Ls (.ref b :: rest))) :=
  own_step (fun t q => XS.ifnonnullYes X.here hx rfl (pc0 := pc) (pc' := pc') rfl (hb hby hd) rfl ho hp q) k
theorem own_ifnonnullN (X : Stand p l e R s m args below meth c T locs cells slots) (hx : p.tables.exec = Jvm.exec) (hby : c.code = bytes) {o : Int} (hd : decode bytes pc = .ok (.ifnonnull o, 3)) (hp : pc + 3 = pc') (k : GoP p e below Φ (T.setTop (mkF m pc' Ls (rest)))) : GoP p e below Φ (T.setTop (mkF m pc Ls (.null :: rest))) := by
  subst hp
  exact own_step (fun t q => XS.ifnonnullNo X.here hx rfl (hb hby hd) rfl q) k
theorem own_acmp (X : Stand p l e R s m args below meth c T locs cells slots) (hx : p.tables.exec = Jvm.exec) (hby : c.code = bytes) {cd : ACond} {x y : Value} {o : Int} (hd : decode bytes pc = .ok (.if_acmp cd o, 3)) (h1 : x.isRef = true) (h2 : y.isRef = true) {same : Bool} (hq : decide (x = y) = same) (ho : 0 ≤ (pc : Int) + o) (hp : pc' = if acV cd same = true then ((pc : Int) + o).toNat else pc + 3) (k : GoP p e below Φ (T.setTop (mkF m pc' Ls (rest)))) : GoP p e below Φ (T.setTop (mkF m pc Ls (y :: x :: rest))) :=
  own_step (fun t q => Jvm.RoadKit.acmp (g := mkF m pc Ls (y :: x :: rest)) X hx rfl h1 h2 (pc0 := pc) (pc' := pc') (same := same) rfl (hb hby hd) rfl hq ho hp q) k
theorem own_ldcI (X : Stand p l e R s m args below meth c T locs cells slots) (hx : p.tables.exec = Jvm.exec) (hby : c.code = bytes) (hZ : Z.Warmed39 s.vm) {own : String} {i : Nat} {v : Int32} (hown : s.vm.findClass own = some m.cls) (w : (Jvm.Cond.constant own i v).before a0 Z = true) (hd : decode bytes pc = .ok (.ldc i, 2)) (hp : pc + 2 = pc') (k : GoP p e below Φ (T.setTop (mkF m pc' Ls (.int v :: rest)))) : GoP p e below Φ (T.setTop (mkF m pc Ls (rest))) := by
  subst hp
  exact own_step (fun t q => Jvm.Stand.ldcI X hx hown (mvT hZ w) rfl (hb hby hd) q) k
theorem own_ldcWI (X : Stand p l e R s m args below meth c T locs cells slots) (hx : p.tables.exec = Jvm.exec) (hby : c.code = bytes) (hZ : Z.Warmed39 s.vm) {own : String} {i : Nat} {v : Int32} (hown : s.vm.findClass own = some m.cls) (w : (Jvm.Cond.constant own i v).before a0 Z = true) (hd : decode bytes pc = .ok (.ldc_w i, 3)) (hp : pc + 3 = pc') (k : GoP p e below Φ (T.setTop (mkF m pc' Ls (.int v :: rest)))) : GoP p e below Φ (T.setTop (mkF m pc Ls (rest))) := by
  subst hp
  exact own_step (fun t q => Jvm.Stand.ldcWI X hx hown (mvT hZ w) rfl (hb hby hd) q) k
theorem own_ldc2J (X : Stand p l e R s m args below meth c T locs cells slots) (hx : p.tables.exec = Jvm.exec) (hby : c.code = bytes) (hZ : Z.Warmed39 s.vm) {own : String} {i : Nat} {v : Int64} (hown : s.vm.findClass own = some m.cls) (w : (Jvm.Cond.constantLong own i v).before a0 Z = true) (hd : decode bytes pc = .ok (.ldc2_w i, 3)) (hp : pc + 3 = pc') (k : GoP p e below Φ (T.setTop (mkF m pc' Ls (.long v :: rest)))) : GoP p e below Φ (T.setTop (mkF m pc Ls (rest))) := by
  subst hp
  exact own_step (fun t q => Jvm.Stand.ldc2J X hx hown (mvT hZ w) rfl (hb hby hd) q) k
/-- a contract of one body at one heap: with these arguments it returns, and Q says what it leaves -/
def Con (l : Launch) (Z : State) (y : MethodName) (bytes : ByteArray) (maxL : Nat) (ret : Option FieldType) (ws : List Jvm.Cond) (rm : Room) (as' : Array Value) (h0 : Heap) (Q : Option Value → Heap → List Loc → Prop) : Prop :=
  MetFree l y (head1 (Jvm.Cond.code y bytes maxL ret :: ws) rm) (fun a U => a = as' ∧ Z.Warmed39 U.vm ∧ U.heap = h0) (fun _ _ _ _ _ => True) (fun _ U o U' => ∃ v L, o = .returned v ∧ Q v U'.heap L ∧ FrameEnd U o U' L rm.cells rm.slots)
/-- where a body may end: at a state that stands, with a value that Q takes -/
def Fin (p : Program) (l : Launch) (e : Env) (R : Room) (s : State) (m : MethodId) (args : Array Value) (below : List Frame) (meth : Method) (c : Code) (Q : Option Value → Heap → List Loc → Prop) (Φ : State → Prop) : Prop :=
  ∀ (T : State) (locs : List Loc) (cells slots : Nat) (v : Option Value), Stand p l e R s m args below meth c T locs cells slots → (meth.sig.returnType = none → v = none) → Q v T.heap locs → cells ≤ R.cells → slots ≤ R.slots →
    ∃ fs, (∀ (f : JFrame) (acts : List Action), f.method = m → f.locked = none → f.entered = [] → (doReturn e (T.setTop f) acts v).1 = T.setFrames fs) ∧ Φ (T.setFrames fs)
theorem Con.of {y : MethodName} {maxL : Nat} {ret : Option FieldType} {ws : List Jvm.Cond} {rm : Room} {as' : Array Value} {h0 : Heap} {Q : Option Value → Heap → List Loc → Prop} (hpn : plainName y.cls = true)
    (body : ∀ (p : Program) (e : Env) (s : State) (m : MethodId) (below : List Frame) (meth : Method) (c : Code) (T : State), Stand p l e rm s m as' below meth c T [] 0 0 → p.tables.exec = Jvm.exec → c.code = bytes → c.maxLocals = maxL → s.vm.findClass y.cls = some m.cls → meth.name = y.name → meth.sig.returnType = ret → T.heap = h0 → Z.Warmed39 s.vm → s.heap = h0 →
      ∀ Φ : State → Prop, Fin p l e rm s m as' below meth c Q Φ → GoP p e below Φ (T.setTop (entryFrame m as' maxL))) : Con l Z y bytes maxL ret ws rm as' h0 Q := by
  refine MetFree.of_bodySF (plainFor_of_name hpn) hisR ?_
  intro p e s m args below meth c s₁ Bd hml0 hP hK
  obtain ⟨rfl, hZ, hh⟩ := hP
  have e0 : s₁.heap = h0 := by rw [← hh, Bd.state]; rfl
  have hlk : meth.locks = false := Bd.notSynchronized
  obtain ⟨t, h1, o, h2⟩ := body p e s m below meth c s₁ (Stand.of_body Bd) Bd.exec Bd.bytes hml0 (findClass_of_methodNamed Bd.named) (name_of_methodNamed Bd.named Bd.method).1 Bd.returns e0 hZ hh
    (fun t => ∃ o, t.status = .running ∧ Ended t below o ∧ ∃ v L, o = .returned v ∧ Q v t.heap L ∧ FrameEnd s o t L rm.cells rm.slots)
    (fun T locs cells slots v X hv hQ hc hs => by
      obtain ⟨fs, hr, hrun, hended, hW, hsame⟩ := X.leave (v := v) hv hlk
      exact ⟨fs, hr, _, hrun, hended, v, locs, rfl, hQ, ⟨_, rfl⟩, hW, hsame.mono hc hs⟩)
  exact ⟨t, o, h1, h2⟩
theorem own_retV (X : Stand p l e R s m args below meth c T locs cells slots) (hx : p.tables.exec = Jvm.exec) (hby : c.code = bytes) {Q : Option Value → Heap → List Loc → Prop} (fin : Fin p l e R s m args below meth c Q Φ) {t : FieldType} (hret : meth.sig.returnType = some t) {w : Value} {i : Instr} (hn : narrow t w = w)
    (hi : (i = .ireturn ∧ (t = .int ∨ t = .boolean ∨ t = .byte ∨ t = .char ∨ t = .short) ∧ ∃ z, w = .int z) ∨ (i = .lreturn ∧ t = .long ∧ ∃ z, w = .long z) ∨ (i = .dreturn ∧ t = .double ∧ ∃ z, w = .double z) ∨ (i = .freturn ∧ t = .float ∧ ∃ z, w = .float z) ∨ (i = .areturn ∧ t.isReference = true ∧ w.isRef = true))
    (hd : decode bytes pc = .ok (i, 1)) (hc : cells ≤ R.cells) (hs : slots ≤ R.slots) (hQ : Q (some w) T.heap locs) : GoP p e below Φ (T.setTop (mkF m pc Ls (w :: rest))) := by
  obtain ⟨fs, hr, hΦ⟩ := fin _ _ _ _ (some w) X (fun q => by rw [hret] at q; cases q) hQ hc hs
  exact ⟨_, retOut X hx hret hn hi (hb hby hd) hr, hΦ⟩
theorem own_retI (X : Stand p l e R s m args below meth c T locs cells slots) (hx : p.tables.exec = Jvm.exec) (hby : c.code = bytes) {Q : Option Value → Heap → List Loc → Prop} (fin : Fin p l e R s m args below meth c Q Φ) (hret : meth.sig.returnType = some .int) {z : Int32} (hd : decode bytes pc = .ok (.ireturn, 1)) (hc : cells ≤ R.cells) (hs : slots ≤ R.slots) (hQ : Q (some (.int z)) T.heap locs) : GoP p e below Φ (T.setTop (mkF m pc Ls (.int z :: rest))) :=
  own_retV X hx hby fin hret rfl (Or.inl ⟨rfl, Or.inl rfl, z, rfl⟩) hd hc hs hQ
theorem own_retN (X : Stand p l e R s m args below meth c T locs cells slots) (hx : p.tables.exec = Jvm.exec) (hby : c.code = bytes) {Q : Option Value → Heap → List Loc → Prop} (fin : Fin p l e R s m args below meth c Q Φ) {t : FieldType} (hret : meth.sig.returnType = some t) (ht : t = .int ∨ t = .boolean ∨ t = .byte ∨ t = .char ∨ t = .short) {z : Int32} (hn : narrow t (.int z) = .int z) (hd : decode bytes pc = .ok (.ireturn, 1)) (hc : cells ≤ R.cells) (hs : slots ≤ R.slots) (hQ : Q (some (.int z)) T.heap locs) : GoP p e below Φ (T.setTop (mkF m pc Ls (.int z :: rest))) :=
  own_retV X hx hby fin hret hn (Or.inl ⟨rfl, ht, z, rfl⟩) hd hc hs hQ
theorem own_retJ (X : Stand p l e R s m args below meth c T locs cells slots) (hx : p.tables.exec = Jvm.exec) (hby : c.code = bytes) {Q : Option Value → Heap → List Loc → Prop} (fin : Fin p l e R s m args below meth c Q Φ) (hret : meth.sig.returnType = some .long) {z : Int64} (hd : decode bytes pc = .ok (.lreturn, 1)) (hc : cells ≤ R.cells) (hs : slots ≤ R.slots) (hQ : Q (some (.long z)) T.heap locs) : GoP p e below Φ (T.setTop (mkF m pc Ls (.long z :: rest))) :=
  own_retV X hx hby fin hret rfl (Or.inr (Or.inl ⟨rfl, rfl, z, rfl⟩)) hd hc hs hQ
theorem own_retA (X : Stand p l e R s m args below meth c T locs cells slots) (hx : p.tables.exec = Jvm.exec) (hby : c.code = bytes) {Q : Option Value → Heap → List Loc → Prop} (fin : Fin p l e R s m args below meth c Q Φ) {t : FieldType} (hret : meth.sig.returnType = some t) (ht : t.isReference = true) {w : Value} (hw : w.isRef = true) (hn : narrow t w = w) (hd : decode bytes pc = .ok (.areturn, 1)) (hc : cells ≤ R.cells) (hs : slots ≤ R.slots) (hQ : Q (some w) T.heap locs) : GoP p e below Φ (T.setTop (mkF m pc Ls (w :: rest))) :=
  own_retV X hx hby fin hret hn (Or.inr (Or.inr (Or.inr (Or.inr ⟨rfl, ht, hw⟩)))) hd hc hs hQ
theorem own_ret0 (X : Stand p l e R s m args below meth c T locs cells slots) (hx : p.tables.exec = Jvm.exec) (hby : c.code = bytes) {Q : Option Value → Heap → List Loc → Prop} (fin : Fin p l e R s m args below meth c Q Φ) (hret : meth.sig.returnType = none) (hd : decode bytes pc = .ok (.return_, 1)) (hc : cells ≤ R.cells) (hs : slots ≤ R.slots) (hQ : Q none T.heap locs) : GoP p e below Φ (T.setTop (mkF m pc Ls ([]))) := by
  obtain ⟨fs, hr, hΦ⟩ := fin _ _ _ _ none X (fun _ => rfl) hQ hc hs
  exact ⟨_, X.returnOut hx hret (hb hby hd) hr, hΦ⟩
theorem own_callS (X : Stand p l e R s m args below meth c T locs cells slots) (hx : p.tables.exec = Jvm.exec) (hby : c.code = bytes) (hZ : Z.Warmed39 s.vm) (hml : Ls.size = c.maxLocals) {own : String} {index : Nat} {y : MethodName} (hown : s.vm.findClass own = some m.cls) (w1 : (Jvm.Cond.methodLink own index y).before a0 Z = true) (w2 : (Jvm.Cond.static y).before a0 Z = true) (w3 : (Jvm.Cond.initialized y.cls).before a0 Z = true) {bytes' : ByteArray} {maxL : Nat} {ret : Option FieldType} (w4 : (Jvm.Cond.code y bytes' maxL ret).before a0 Z = true) (hy : y.cls ≠ "java/lang/invoke/MethodHandle" ∧ y.cls ≠ "java/lang/invoke/VarHandle") {rm : Room} {Q : Option Value → Heap → List Loc → Prop} (eT : T.heap = h) (W : Nat) (hf : rm.frames + 1 ≤ R.frames) (hl : W + (maxL + 11) + rm.locals ≤ R.locals) (hc : cells + rm.cells ≤ R.cells) (hs : slots + rm.slots ≤ R.slots) {argsL rest : List Value} {st : List Value} (hlen : ∀ sig, parseMethodDescriptor y.desc = some sig → argsL.length = sig.parameters.length) (hst : st = argsL.reverse ++ rest) (hM : Con l Z y bytes' maxL ret [] rm argsL.toArray h Q) (hW : (rest.map fun v => v.category).sum ≤ W) (hd : decode bytes pc = .ok (.invokestatic index, 3)) (hp : pc + 3 = pc') (k : ∀ (v : Option Value) (T' : State) (L : List Loc), Stand p l e R s m args below meth c T' (locs ++ L) (cells + rm.cells) (slots + rm.slots) → Q v T'.heap L → GoP p e below Φ (T'.setTop (mkF m pc' Ls (v.toList ++ rest)))) : GoP p e below Φ (T.setTop (mkF m pc Ls st)) := by
  obtain ⟨v, _, ⟨T', L', k', n'⟩, -, X', ⟨L, hQ, l1, y1, z1⟩, st'⟩ := Jvm.LawKit.callS X hx (y := y) hown (mvT hZ w1) (mvT hZ w2) (mvT hZ w3) (mvT hZ w4) hy (backOf (W := W) hM hZ w4 w3 hf hl) (g := mkF m pc Ls st) rfl hml (argsL := argsL) (rest := rest) hlen hst (by show 2 * 0 + _ ≤ _; omega) (hb hby hd) (fun _ _ => ⟨rfl, eT, hc, hs⟩)
  dsimp only [Pt.U, Pt.locs, Pt.cells, Pt.slots] at X' l1 y1 z1 st' hQ
  subst l1 y1 z1 hp
  exact own_step st' (k _ _ _ X' hQ)
theorem own_callI (X : Stand p l e R s m args below meth c T locs cells slots) (hx : p.tables.exec = Jvm.exec) (hby : c.code = bytes) (hZ : Z.Warmed39 s.vm) (hml : Ls.size = c.maxLocals) {own : String} {index : Nat} {y : MethodName} (hown : s.vm.findClass own = some m.cls) {a : Addr} (hn : y.name = "<init>") (w1 : (Jvm.Cond.methodLink own index y).before a0 Z = true) (w2 : (Jvm.Cond.instanceMethod y).before a0 Z = true) (w3 : (Jvm.Cond.initialized y.cls).before a0 Z = true) {bytes' : ByteArray} {maxL : Nat} (w4 : (Jvm.Cond.code y bytes' maxL none).before a0 Z = true) (hy : y.cls ≠ "java/lang/invoke/MethodHandle" ∧ y.cls ≠ "java/lang/invoke/VarHandle") {rm : Room} {Q : Option Value → Heap → List Loc → Prop} (eT : T.heap = h) (W : Nat) (hf : rm.frames + 1 ≤ R.frames) (hl : W + (maxL + 11) + rm.locals ≤ R.locals) (hc : cells + rm.cells ≤ R.cells) (hs : slots + rm.slots ≤ R.slots) {argsL rest : List Value} {st : List Value} (hlen : ∀ sig, parseMethodDescriptor y.desc = some sig → argsL.length = sig.parameters.length) (hst : st = argsL.reverse ++ .ref a :: rest) (hW : (rest.map fun v => v.category).sum ≤ W) (hM : Con l Z y bytes' maxL none [] rm (.ref a :: argsL).toArray h Q) (hd : decode bytes pc = .ok (.invokespecial index, 3)) (hp : pc + 3 = pc') (k : ∀ (v : Option Value) (T' : State) (L : List Loc), Stand p l e R s m args below meth c T' (locs ++ L) (cells + rm.cells) (slots + rm.slots) → Q v T'.heap L → GoP p e below Φ (T'.setTop (mkF m pc' Ls (v.toList ++ rest)))) : GoP p e below Φ (T.setTop (mkF m pc Ls st)) := by
  obtain ⟨v, _, ⟨T', L', k', n'⟩, -, X', ⟨L, hQ, l1, y1, z1⟩, st'⟩ := X.specialBack hx (y := y) hn hown (mvT hZ w1) (mvT hZ w2) (mvT hZ w4) hy (backOf (W := W) hM hZ w4 w3 hf hl) (g := mkF m pc Ls st) rfl hml (Steps.refl _) (a := a) (argsL := argsL) (rest := rest) hlen hst (by show 2 * 0 + _ ≤ _; omega) (hb hby hd) (fun _ _ => ⟨rfl, eT, hc, hs⟩)
  dsimp only [Pt.U, Pt.locs, Pt.cells, Pt.slots] at X' l1 y1 z1 st' hQ
  subst l1 y1 z1 hp
  exact own_trans st' (k _ _ _ X' hQ)
theorem own_callV (X : Stand p l e R s m args below meth c T locs cells slots) (hx : p.tables.exec = Jvm.exec) (hby : c.code = bytes) (hZ : Z.Warmed39 s.vm) (hml : Ls.size = c.maxLocals) {own : String} {index : Nat} {y : MethodName} (hown : s.vm.findClass own = some m.cls) {C : String} {b : Addr} (w1 : (Jvm.Cond.methodLink own index y).before a0 Z = true) (w2 : (Jvm.Cond.declares y).before a0 Z = true) (w5 : (Jvm.Cond.selects C y y).before a0 Z = true) (w6 : (Jvm.Cond.instanceMethod y).before a0 Z = true) (w3 : (Jvm.Cond.initialized y.cls).before a0 Z = true) {bytes' : ByteArray} {maxL : Nat} {ret : Option FieldType} (w4 : (Jvm.Cond.code y bytes' maxL ret).before a0 Z = true) (hy : y.cls ≠ "java/lang/invoke/MethodHandle" ∧ y.cls ≠ "java/lang/invoke/VarHandle") {rm : Room} {Q : Option Value → Heap → List Loc → Prop} (eT : T.heap = h) (W : Nat) (hf : rm.frames + 1 ≤ R.frames) (hl : W + (maxL + 11) + rm.locals ≤ R.locals) (hc : cells + rm.cells ≤ R.cells) (hs : slots + rm.slots ≤ R.slots) {argsL rest : List Value} {st : List Value} (hlen : ∀ sig, parseMethodDescriptor y.desc = some sig → argsL.length = sig.parameters.length) (hst : st = argsL.reverse ++ .ref b :: rest) (hW : (rest.map fun v => v.category).sum ≤ W) (E : Exa Z h b C) (hM : Con l Z y bytes' maxL ret [] rm (.ref b :: argsL).toArray h Q) (hd : decode bytes pc = .ok (.invokevirtual index, 3)) (hp : pc + 3 = pc') (k : ∀ (v : Option Value) (T' : State) (L : List Loc), Stand p l e R s m args below meth c T' (locs ++ L) (cells + rm.cells) (slots + rm.slots) → Q v T'.heap L → GoP p e below Φ (T'.setTop (mkF m pc' Ls (v.toList ++ rest)))) : GoP p e below Φ (T.setTop (mkF m pc Ls st)) := by
  obtain ⟨cq, kq, qa, qb, qc⟩ := isOf hZ eT E
  obtain ⟨v, _, ⟨T', L', k', n'⟩, -, X', ⟨L, hQ, l1, y1, z1⟩, st'⟩ := X.virtualBack hx (y := y) (z := y) hown (mvT hZ w1) (mvT hZ w2) (notFace_of_selects (args := #[]) (mvT hZ w5)) (mvT hZ w5) (mvT hZ w6) hy (backOf (W := W) hM hZ w4 w3 hf hl) qa qc (g := mkF m pc Ls st) rfl hml (Steps.refl _) (argsL := argsL) (rest := rest) hlen hst (by show 2 * 0 + _ ≤ _; omega) (hb hby hd) (fun _ _ => ⟨rfl, eT, hc, hs⟩)
  dsimp only [Pt.U, Pt.locs, Pt.cells, Pt.slots] at X' l1 y1 z1 st' hQ
  subst l1 y1 z1 hp
  exact own_trans st' (k _ _ _ X' hQ)
theorem own_callU (X : Stand p l e R s m args below meth c T locs cells slots) (hx : p.tables.exec = Jvm.exec) (hby : c.code = bytes) (hZ : Z.Warmed39 s.vm) (hml : Ls.size = c.maxLocals) {own : String} {index : Nat} {x0 y : MethodName} (hown : s.vm.findClass own = some m.cls) {C owner : String} {b : Addr} (w1 : (Jvm.Cond.methodLink own index x0).before a0 Z = true) (ws : (Jvm.Cond.sameMethod x0.cls owner x0.name x0.desc).before a0 Z = true) (w2 : (Jvm.Cond.declares ⟨owner, x0.name, x0.desc⟩).before a0 Z = true) (w5 : (Jvm.Cond.selects C x0 y).before a0 Z = true) (w6 : (Jvm.Cond.instanceMethod y).before a0 Z = true) (w3 : (Jvm.Cond.initialized y.cls).before a0 Z = true) {bytes' : ByteArray} {maxL : Nat} {ret : Option FieldType} (w4 : (Jvm.Cond.code y bytes' maxL ret).before a0 Z = true) (hy : owner ≠ "java/lang/invoke/MethodHandle" ∧ owner ≠ "java/lang/invoke/VarHandle") {rm : Room} {Q : Option Value → Heap → List Loc → Prop} (eT : T.heap = h) (W : Nat) (hf : rm.frames + 1 ≤ R.frames) (hl : W + (maxL + 11) + rm.locals ≤ R.locals) (hc : cells + rm.cells ≤ R.cells) (hs : slots + rm.slots ≤ R.slots) {argsL rest : List Value} {st : List Value} (hlen : ∀ sig, parseMethodDescriptor x0.desc = some sig → argsL.length = sig.parameters.length) (hst : st = argsL.reverse ++ .ref b :: rest) (hW : (rest.map fun v => v.category).sum ≤ W) (E : Exa Z h b C) (hM : Con l Z y bytes' maxL ret [] rm (.ref b :: argsL).toArray h Q) (hd : decode bytes pc = .ok (.invokevirtual index, 3)) (hp : pc + 3 = pc') (k : ∀ (v : Option Value) (T' : State) (L : List Loc), Stand p l e R s m args below meth c T' (locs ++ L) (cells + rm.cells) (slots + rm.slots) → Q v T'.heap L → GoP p e below Φ (T'.setTop (mkF m pc' Ls (v.toList ++ rest)))) : GoP p e below Φ (T.setTop (mkF m pc Ls st)) := by
  obtain ⟨cq, kq, qa, qb, qc⟩ := isOf hZ eT E
  obtain ⟨v, _, ⟨T', L', k', n'⟩, -, X', ⟨L, hQ, l1, y1, z1⟩, st'⟩ := X.virtualBackUp hx (x := x0) (y := y) hown (mvT hZ w1) (mvT hZ ws) (mvT hZ w2) hy (mvT hZ w5) (mvT hZ w6) (backOf (W := W) hM hZ w4 w3 hf hl) qa qc (g := mkF m pc Ls st) rfl hml (Steps.refl _) (argsL := argsL) (rest := rest) hlen hst (by show 2 * 0 + _ ≤ _; omega) (hb hby hd) (fun _ _ => ⟨rfl, eT, hc, hs⟩)
  dsimp only [Pt.U, Pt.locs, Pt.cells, Pt.slots] at X' l1 y1 z1 st' hQ
  subst l1 y1 z1 hp
  exact own_trans st' (k _ _ _ X' hQ)
theorem own_callF (X : Stand p l e R s m args below meth c T locs cells slots) (hx : p.tables.exec = Jvm.exec) (hby : c.code = bytes) (hZ : Z.Warmed39 s.vm) (hml : Ls.size = c.maxLocals) {own : String} {index : Nat} {x0 y : MethodName} (hown : s.vm.findClass own = some m.cls) {count : Nat} {C : String} {b : Addr} (w1 : (Jvm.Cond.methodLink own index x0).before a0 Z = true) (w2 : (Jvm.Cond.declares x0).before a0 Z = true) (w7 : (Jvm.Cond.interfaceMethod x0.cls x0.cls x0.name x0.desc).before a0 Z = true) (w5 : (Jvm.Cond.selects C x0 y).before a0 Z = true) (w6 : (Jvm.Cond.instanceMethod y).before a0 Z = true) (w8 : (Jvm.Cond.publicMethod y).before a0 Z = true) (w9 : (Jvm.Cond.unhidden C x0.name x0.desc).before a0 Z = true) (w10 : (Jvm.Cond.castable C x0.cls).before a0 Z = true) (w3 : (Jvm.Cond.initialized y.cls).before a0 Z = true) (q7 : ((Jvm.Cond.interfaceMethod x0.cls x0.cls x0.name x0.desc).onTables && (Jvm.Cond.interfaceMethod x0.cls x0.cls x0.name x0.desc).keepsFace) = true) {bytes' : ByteArray} {maxL : Nat} {ret : Option FieldType} (w4 : (Jvm.Cond.code y bytes' maxL ret).before a0 Z = true) (hy : x0.cls ≠ "java/lang/invoke/MethodHandle" ∧ x0.cls ≠ "java/lang/invoke/VarHandle") {rm : Room} {Q : Option Value → Heap → List Loc → Prop} (eT : T.heap = h) (W : Nat) (hf : rm.frames + 1 ≤ R.frames) (hl : W + (maxL + 11) + rm.locals ≤ R.locals) (hc : cells + rm.cells ≤ R.cells) (hs : slots + rm.slots ≤ R.slots) {argsL rest : List Value} {st : List Value} (hlen : ∀ sig, parseMethodDescriptor x0.desc = some sig → argsL.length = sig.parameters.length) (hst : st = argsL.reverse ++ .ref b :: rest) (hW : (rest.map fun v => v.category).sum ≤ W) (E : Exa Z h b C) (hM : Con l Z y bytes' maxL ret [] rm (.ref b :: argsL).toArray h Q) (hd : decode bytes pc = .ok (.invokeinterface index count, 5)) (hp : pc + 5 = pc') (k : ∀ (v : Option Value) (T' : State) (L : List Loc), Stand p l e R s m args below meth c T' (locs ++ L) (cells + rm.cells) (slots + rm.slots) → Q v T'.heap L → GoP p e below Φ (T'.setTop (mkF m pc' Ls (v.toList ++ rest)))) : GoP p e below Φ (T.setTop (mkF m pc Ls st)) := by
  obtain ⟨cq, kq, qa, qb, qc⟩ := isOf hZ eT E
  obtain ⟨v, _, ⟨T', L', k', n'⟩, -, X', ⟨L, hQ, l1, y1, z1⟩, st'⟩ := X.interfaceBack hx (xi := x0) (y := y) hown (mvT hZ w1) (mvT hZ w2) (mvT hZ w7 q7) (mvT hZ w5) (mvT hZ w6) (mvT hZ w8) (mvT hZ w9) (mvT hZ w10) hy (backOf (W := W) hM hZ w4 w3 hf hl) qa qb qc (g := mkF m pc Ls st) rfl hml (Steps.refl _) (argsL := argsL) (rest := rest) hlen hst (by show 2 * 0 + _ ≤ _; omega) (hb hby hd) (fun _ _ => ⟨rfl, eT, hc, hs⟩)
  dsimp only [Pt.U, Pt.locs, Pt.cells, Pt.slots] at X' l1 y1 z1 st' hQ
  subst l1 y1 z1 hp
  exact own_trans st' (k _ _ _ X' hQ)
theorem own_callP (X : Stand p l e R s m args below meth c T locs cells slots) (hx : p.tables.exec = Jvm.exec) (hby : c.code = bytes) (hZ : Z.Warmed39 s.vm) (hml : Ls.size = c.maxLocals) {own : String} {index : Nat} {y : MethodName} (hown : s.vm.findClass own = some m.cls) {C : String} {b : Addr} (w1 : (Jvm.Cond.methodLink own index y).before a0 Z = true) (w2 : (Jvm.Cond.privateMethod y).before a0 Z = true) (w5 : (Jvm.Cond.selects y.cls y y).before a0 Z = true) (w6 : (Jvm.Cond.instanceMethod y).before a0 Z = true) (w3 : (Jvm.Cond.initialized y.cls).before a0 Z = true) {bytes' : ByteArray} {maxL : Nat} {ret : Option FieldType} (w4 : (Jvm.Cond.code y bytes' maxL ret).before a0 Z = true) (hy : y.cls ≠ "java/lang/invoke/MethodHandle" ∧ y.cls ≠ "java/lang/invoke/VarHandle") {rm : Room} {Q : Option Value → Heap → List Loc → Prop} (eT : T.heap = h) (W : Nat) (hf : rm.frames + 1 ≤ R.frames) (hl : W + (maxL + 11) + rm.locals ≤ R.locals) (hc : cells + rm.cells ≤ R.cells) (hs : slots + rm.slots ≤ R.slots) {argsL rest : List Value} {st : List Value} (hlen : ∀ sig, parseMethodDescriptor y.desc = some sig → argsL.length = sig.parameters.length) (hst : st = argsL.reverse ++ .ref b :: rest) (hW : (rest.map fun v => v.category).sum ≤ W) (E : Exa Z h b C) (hM : Con l Z y bytes' maxL ret [] rm (.ref b :: argsL).toArray h Q) (hd : decode bytes pc = .ok (.invokevirtual index, 3)) (hp : pc + 3 = pc') (k : ∀ (v : Option Value) (T' : State) (L : List Loc), Stand p l e R s m args below meth c T' (locs ++ L) (cells + rm.cells) (slots + rm.slots) → Q v T'.heap L → GoP p e below Φ (T'.setTop (mkF m pc' Ls (v.toList ++ rest)))) : GoP p e below Φ (T.setTop (mkF m pc Ls st)) := by
  obtain ⟨cq, q1, q2⟩ := E.cell
  obtain ⟨v, _, ⟨T', L', k', n'⟩, -, X', ⟨L, hQ, l1, y1, z1⟩, st'⟩ := X.privateBack hx (y := y) hown (mvT hZ w1) (mvT hZ w6) (mvT hZ w5) (Cond.privateMethod_at (mvP hZ w2 (args := #[]))) (mvT hZ w4) hy (backOf (W := W) hM hZ w4 w3 hf hl) (g := mkF m pc Ls st) rfl hml (Steps.refl _) (a := b) (by rw [eT]; exact q1) q2 (argsL := argsL) (rest := rest) hlen hst (by show 2 * 0 + _ ≤ _; omega) (hb hby hd) (fun _ _ => ⟨rfl, eT, hc, hs⟩)
  dsimp only [Pt.U, Pt.locs, Pt.cells, Pt.slots] at X' l1 y1 z1 st' hQ
  subst l1 y1 z1 hp
  exact own_trans st' (k _ _ _ X' hQ)
theorem own_fldI {args : Array Value} {s : State} {t : Term} {a : Addr} {C n d : String} {k : Int32} (ev : t.eval args s none [] s = some (.ref a)) (q : (Jvm.Cond.eq (Jvm.Term.field t C n d) (Jvm.Term.int k)).value args s none s [] = some true) : Fld s s.heap a C n d (.int k) := by
  obtain ⟨x, y, e1, e2, k1, k2⟩ := cmp_v (Or.inl q)
  have ey : y = .int k := Option.some.inj (e2.symm.trans (Term.int_eval k))
  subst ey
  obtain ⟨z, rfl⟩ : ∃ z, x = .int z := k2
  have ez : z = k := by simpa [Cond.value, e1, e2] using q
  subst ez
  exact Fld.start ((fld_at ev).symm.trans e1)
theorem own_i32 (x : Int32) (k : Int) (hk : (Int32.ofInt k).toInt = k) (h : x.toInt = k) : x = Int32.ofInt k := Int32.toInt_inj.mp (h.trans hk.symm)
theorem own_stakeep {C n d : String} {w : Value} {h' : Heap} {ws : List Addr} (F : Sta Z h C n d w) (K : Keep h h' ws) (q : ∀ x ∈ ws, ∀ c : Cell, h[x]? = some c → c.vm.isStatics = false) : Sta Z h' C n d w := by
  obtain ⟨cf, i, k, f, st, cell, h1, h2, h3, h4, h5, h6, h7⟩ := F
  exact ⟨cf, i, k, f, st, cell, h1, h2, h3, h4, K.2.1 st cell h5 (fun y => by rw [q st y cell h5] at h6; cases h6), h6, h7⟩
theorem own_plainE {a : Addr} {C : String} (F : Exa Z h a C) : ∀ c : Cell, h[a]? = some c → c.vm.isStatics = false := fun c hc => by
  obtain ⟨cell, k, h1, h2, h3, h4, -⟩ := F
  cases hc.symm.trans h1; exact h4
theorem own_plainV {a : Addr} {k : ClassId} {ty : FieldType} {n : Int32} {vs : List Value} {d : Value} (F : Arv Z h a k ty n vs d) : ∀ c : Cell, h[a]? = some c → c.vm.isStatics = false := fun c hc => by
  obtain ⟨cell, A, -⟩ := F
  cases hc.symm.trans A.1; exact A.plain
/-- an int array of length n, of whatever ints -/
def IA (Z : State) (h : Heap) (a : Addr) (n : Int32) : Prop := ∃ cl : Cell, Arr Z h a cl .int ∧ cl.slots.size = n.toNatClampNeg ∧ ¬ n < 0 ∧ ∀ i, i < cl.slots.size → ∃ x, cl.slots[i]? = some (.int x)
theorem IA.new {a : Addr} {k : ClassId} {n : Int32} (A : Arr Z h a (newA k .int n) .int) (q : ¬ n < 0) : IA Z h a n :=
  ⟨_, A, sz_new _ _ _, q, fun i hi => ⟨0, by simp [newA] at hi ⊢; simp [defaultValue, hi]⟩⟩
theorem own_iastoreA (X : Stand p l e R s m args below meth c T locs cells slots) (hx : p.tables.exec = Jvm.exec) (hby : c.code = bytes) (hZ : Z.Warmed39 s.vm) (eT : T.heap = h) {a : Addr} {n j x : Int32} (F : IA Z h a n) (hj : ¬ j < 0 ∧ j < n) (hd : decode bytes pc = .ok (.iastore, 1)) (hp : pc + 1 = pc') (k : ∀ (T' : State) (h' : Heap), Stand p l e R s m args below meth c T' (locs ++ [⟨a, j.toNatClampNeg⟩]) cells slots → T'.heap = h' → Wr h h' a j.toNatClampNeg (.int x) → IA Z h' a n → GoP p e below Φ (T'.setTop (mkF m pc' Ls rest))) : GoP p e below Φ (T.setTop (mkF m pc Ls (.int x :: .int j :: .ref a :: rest))) := by
  subst hp
  obtain ⟨cl, A, S, N, H⟩ := F
  obtain ⟨T', h', X', e', W', st'⟩ := stI X hx hZ eT A (j := j) (x := x) (inb_of S hj) (g := mkF m pc Ls (.int x :: .int j :: .ref a :: rest)) rfl rfl (hb hby hd)
  refine own_step st' (k T' h' X' e' W' ⟨_, A.same W', by rw [sz_set]; exact S, N, fun i hi => ?_⟩)
  rw [sz_set] at hi
  by_cases q : i = j.toNatClampNeg
  · subst q; exact ⟨x, by simp [Cell.setSlot, hi]⟩
  · obtain ⟨y, hy⟩ := H i hi
    exact ⟨y, by rw [show (cl.setSlot j.toNatClampNeg (.int x)).slots[i]? = cl.slots[i]? from Array.getElem?_setIfInBounds_ne (Ne.symm q)]; exact hy⟩
theorem own_ialoadA (X : Stand p l e R s m args below meth c T locs cells slots) (hx : p.tables.exec = Jvm.exec) (hby : c.code = bytes) (hZ : Z.Warmed39 s.vm) (eT : T.heap = h) {a : Addr} {n j : Int32} (F : IA Z h a n) (hj : ¬ j < 0 ∧ j < n) (hd : decode bytes pc = .ok (.iaload, 1)) (hp : pc + 1 = pc') (k : ∀ w : Int32, GoP p e below Φ (T.setTop (mkF m pc' Ls (.int w :: rest)))) : GoP p e below Φ (T.setTop (mkF m pc Ls (.int j :: .ref a :: rest))) := by
  subst hp
  obtain ⟨cl, A, S, N, H⟩ := F
  have q := inb_of S hj
  obtain ⟨w, hw⟩ := H j.toNatClampNeg (Nat.lt_of_not_le fun y => q (Or.inr y))
  exact own_step (fun t u => X.iaload hx (j := j) (v := .int w) (by rw [eT]; exact A.1) (State.isArrayOf_alike hZ.alike A.2.1) A.2.2 q hw (g := mkF m pc Ls (.int j :: .ref a :: rest)) rfl rfl (hb hby hd) t u) (k w)
theorem own_alenA (X : Stand p l e R s m args below meth c T locs cells slots) (hx : p.tables.exec = Jvm.exec) (hby : c.code = bytes) (hZ : Z.Warmed39 s.vm) (eT : T.heap = h) {a : Addr} {n : Int32} (F : IA Z h a n) (hd : decode bytes pc = .ok (.arraylength, 1)) (hp : pc + 1 = pc') (k : GoP p e below Φ (T.setTop (mkF m pc' Ls (.int n :: rest)))) : GoP p e below Φ (T.setTop (mkF m pc Ls (.ref a :: rest))) := by
  subst hp
  obtain ⟨cl, A, S, N, H⟩ := F
  rw [← len_of S N] at k
  exact own_step (fun t u => X.arraylength hx (by rw [eT]; exact A.1) (State.isArrayOf_alike hZ.alike A.2.1) (g := mkF m pc Ls (.ref a :: rest)) rfl rfl (hb hby hd) t u) k
end OwnKit
end Jvm.Pilot.@@N@@
namespace Jvm.Pilot.@@N@@
open Jvm Jvm.ClassFile Sem Op Lib Jvm.Free Jvm.Stand Jvm.LawKit Jvm.RoadKit Bundle Jvm.Pilot.@@N@@.Jvm.D
def own_bit (z : Int32) : Int32 := if z = (0 : Int32) then (0 : Int32) else (1 : Int32)
theorem own_bit0 {z : Int32} (b : Int64) (h : z = (0 : Int32)) : b + (own_bit z).toInt64 = b := by
  rw [own_bit, if_pos h]; exact Int64.add_zero b
theorem own_bit1 {z : Int32} (b : Int64) (h : ¬ z = (0 : Int32)) : b + (own_bit z).toInt64 = b + (1 : Int64) := by
  rw [own_bit, if_neg h]; rfl
theorem own_four (p : Int32) : (p &&& (3 : Int32)) = (0 : Int32) ∨ (p &&& (3 : Int32)) = (1 : Int32) ∨ (p &&& (3 : Int32)) = (2 : Int32) ∨ (p &&& (3 : Int32)) = (3 : Int32) := by
  have a := c_mask p 3 2 (by decide) (by decide)
  have e0 : (0 : Int32).toInt = 0 := by decide
  have e1 : (1 : Int32).toInt = 1 := by decide
  have e2 : (2 : Int32).toInt = 2 := by decide
  have e3 : (3 : Int32).toInt = 3 := by decide
  simp only [← Int32.toInt_inj, e0, e1, e2, e3]
  omega
theorem ef_rmB (m : MethodId) (x0 : Int32) : entryFrame m #[(.int x0)] 1 = mkF m 0 #[.val (.int x0)] [] := by first | (simp [entryFrame, mkF, argsToLocals, Value.category]; done) | rfl
theorem pn_com_example_collectary_collectary_broker_CriterionAddPinLaw : plainName "com/example/collectary/collectary/broker/CriterionAddPinLaw" = true := by first | (simp [plainName, overriddenIn]; done) | decide +kernel
theorem d_method_2_code_0 : decode method_2_code 0 = .ok (.iload_n 0, 1) := by decide +kernel
theorem d_method_2_code_1 : decode method_2_code 1 = .ok (.ifCond .eq 7, 3) := by decide +kernel
theorem d_method_2_code_8 : decode method_2_code 8 = .ok (.iconst 0, 1) := by decide +kernel
theorem d_method_2_code_9 : decode method_2_code 9 = .ok (.ireturn, 1) := by decide +kernel
theorem d_method_2_code_4 : decode method_2_code 4 = .ok (.iconst 1, 1) := by decide +kernel
theorem d_method_2_code_5 : decode method_2_code 5 = .ok (.goto 4, 3) := by decide +kernel
set_option maxRecDepth 65536 in
set_option maxHeartbeats 40000000 in
theorem rmB (l : Launch) (Z : State) (a0 : Array Value) (hw : ∀ d ∈ tables_1, d.before a0 Z = true) (p1 : Int32) (h0 : Heap)  : Con l Z (⟨"com/example/collectary/collectary/broker/CriterionAddPinLaw", "bit", "(Z)I"⟩ : MethodName) method_2_code 1 (some .int) [] ({ frames := 0, cells := 0, slots := 0, locals := 0 } : Room) #[(.int p1)] h0 (fun v h L => v = some (.int (own_bit p1)) ∧ L = [] ∧ h = h0) := by
  refine Con.of pn_com_example_collectary_collectary_broker_CriterionAddPinLaw ?_
  intro p e s m below meth c T X hx hby hml hown hnm hret eT hZ hsh Φ fin
  replace hown : s.vm.findClass "com/example/collectary/collectary/broker/CriterionAddPinLaw" = some m.cls := hown
  replace hml : 1 = c.maxLocals := hml.symm
  refine own_step (fun t k => castTop (ef_rmB m p1) k) ?_
  refine own_iloadN X hx hby d_method_2_code_0 rfl (pc' := 1) rfl ?_
  by_cases hc1_1 : p1 = (0 : Int32)
  · refine own_ifY X hx hby d_method_2_code_1 ((if0 _ _).trans (teq hc1_1).1) (by decide) (pc' := 8) (by decide) ?_
    refine own_iconst X hx hby d_method_2_code_8 (v := (0 : Int32)) rfl (pc' := 9) rfl ?_
    exact own_retI X hx hby fin hret d_method_2_code_9 (by decide) (by decide) ⟨by rw [own_bit, if_pos hc1_1], rfl, eT⟩
  · refine own_ifN X hx hby d_method_2_code_1 ((if0 _ _).trans (feq hc1_1).1) (pc' := 4) rfl ?_
    refine own_iconst X hx hby d_method_2_code_4 (v := (1 : Int32)) rfl (pc' := 5) rfl ?_
    refine own_goto X hx hby d_method_2_code_5 (by decide) (pc' := 9) (by decide) ?_
    exact own_retI X hx hby fin hret d_method_2_code_9 (by decide) (by decide) ⟨by rw [own_bit, if_neg hc1_1], rfl, eT⟩
theorem ef_rm_queries (m : MethodId) (x0 : Addr) : entryFrame m #[(.ref x0)] 1 = mkF m 0 #[.val (.ref x0)] [] := by first | (simp [entryFrame, mkF, argsToLocals, Value.category]; done) | rfl
theorem pn_com_example_collectary_collectary_broker_Criterion : plainName "com/example/collectary/collectary/broker/Criterion" = true := by first | (simp [plainName, overriddenIn]; done) | decide +kernel
theorem d_prog_5_method_3_code_0 : decode prog_5_method_3_code 0 = .ok (.aload_n 0, 1) := by decide +kernel
theorem d_prog_5_method_3_code_1 : decode prog_5_method_3_code 1 = .ok (.getfield 7, 3) := by decide +kernel
theorem d_prog_5_method_3_code_4 : decode prog_5_method_3_code 4 = .ok (.lreturn, 1) := by decide +kernel
set_option maxRecDepth 65536 in
set_option maxHeartbeats 40000000 in
theorem rm_queries (l : Launch) (Z : State) (a0 : Array Value) (hw : ∀ d ∈ tables_1, d.before a0 Z = true) (a : Addr) (w : Int64) (h0 : Heap) (F : Fld Z h0 a "com/example/collectary/collectary/broker/Criterion" "queries" "J" (.long w)) : Con l Z (⟨"com/example/collectary/collectary/broker/Criterion", "queries", "()J"⟩ : MethodName) prog_5_method_3_code 1 (some .long) [] ({ frames := 0, cells := 0, slots := 0, locals := 0 } : Room) #[(.ref a)] h0 (fun v h L => v = some (.long w) ∧ L = [] ∧ h = h0) := by
  refine Con.of pn_com_example_collectary_collectary_broker_Criterion ?_
  intro p e s m below meth c T X hx hby hml hown hnm hret eT hZ hsh Φ fin
  replace hown : s.vm.findClass "com/example/collectary/collectary/broker/Criterion" = some m.cls := hown
  replace hml : 1 = c.maxLocals := hml.symm
  refine own_step (fun t k => castTop (ef_rm_queries m a) k) ?_
  refine own_aloadN X hx hby d_prog_5_method_3_code_0 rfl rfl (pc' := 1) rfl ?_
  obtain ⟨T1, X1, e1, st1⟩ := getF X hx hZ hown (host := "") (Or.inl (own_w hw 14 rfl)) Via.refl eT F (g := (mkF m 1 #[.val (.ref a)] [(.ref a)])) rfl rfl (hb hby d_prog_5_method_3_code_1)
  refine own_step st1 ?_
  show GoP p e below Φ (T1.setTop (mkF m 4 #[.val (.ref a)] [(.long w)]))
  exact own_retJ X1 hx hby fin hret d_prog_5_method_3_code_4 (by decide) (by decide) ⟨rfl, rfl, e1⟩
theorem ef_rm_met (m : MethodId) (x0 : Addr) : entryFrame m #[(.ref x0)] 1 = mkF m 0 #[.val (.ref x0)] [] := by first | (simp [entryFrame, mkF, argsToLocals, Value.category]; done) | rfl
theorem d_prog_5_method_4_code_0 : decode prog_5_method_4_code 0 = .ok (.aload_n 0, 1) := by decide +kernel
theorem d_prog_5_method_4_code_1 : decode prog_5_method_4_code 1 = .ok (.getfield 13, 3) := by decide +kernel
theorem d_prog_5_method_4_code_4 : decode prog_5_method_4_code 4 = .ok (.lreturn, 1) := by decide +kernel
set_option maxRecDepth 65536 in
set_option maxHeartbeats 40000000 in
theorem rm_met (l : Launch) (Z : State) (a0 : Array Value) (hw : ∀ d ∈ tables_1, d.before a0 Z = true) (a : Addr) (w : Int64) (h0 : Heap) (F : Fld Z h0 a "com/example/collectary/collectary/broker/Criterion" "met" "J" (.long w)) : Con l Z (⟨"com/example/collectary/collectary/broker/Criterion", "met", "()J"⟩ : MethodName) prog_5_method_4_code 1 (some .long) [] ({ frames := 0, cells := 0, slots := 0, locals := 0 } : Room) #[(.ref a)] h0 (fun v h L => v = some (.long w) ∧ L = [] ∧ h = h0) := by
  refine Con.of pn_com_example_collectary_collectary_broker_Criterion ?_
  intro p e s m below meth c T X hx hby hml hown hnm hret eT hZ hsh Φ fin
  replace hown : s.vm.findClass "com/example/collectary/collectary/broker/Criterion" = some m.cls := hown
  replace hml : 1 = c.maxLocals := hml.symm
  refine own_step (fun t k => castTop (ef_rm_met m a) k) ?_
  refine own_aloadN X hx hby d_prog_5_method_4_code_0 rfl rfl (pc' := 1) rfl ?_
  obtain ⟨T1, X1, e1, st1⟩ := getF X hx hZ hown (host := "") (Or.inl (own_w hw 21 rfl)) Via.refl eT F (g := (mkF m 1 #[.val (.ref a)] [(.ref a)])) rfl rfl (hb hby d_prog_5_method_4_code_1)
  refine own_step st1 ?_
  show GoP p e below Φ (T1.setTop (mkF m 4 #[.val (.ref a)] [(.long w)]))
  exact own_retJ X1 hx hby fin hret d_prog_5_method_4_code_4 (by decide) (by decide) ⟨rfl, rfl, e1⟩
theorem ef_rm_metStrictly (m : MethodId) (x0 : Addr) : entryFrame m #[(.ref x0)] 1 = mkF m 0 #[.val (.ref x0)] [] := by first | (simp [entryFrame, mkF, argsToLocals, Value.category]; done) | rfl
theorem d_prog_5_method_5_code_0 : decode prog_5_method_5_code 0 = .ok (.aload_n 0, 1) := by decide +kernel
theorem d_prog_5_method_5_code_1 : decode prog_5_method_5_code 1 = .ok (.getfield 16, 3) := by decide +kernel
theorem d_prog_5_method_5_code_4 : decode prog_5_method_5_code 4 = .ok (.lreturn, 1) := by decide +kernel
set_option maxRecDepth 65536 in
set_option maxHeartbeats 40000000 in
theorem rm_metStrictly (l : Launch) (Z : State) (a0 : Array Value) (hw : ∀ d ∈ tables_1, d.before a0 Z = true) (a : Addr) (w : Int64) (h0 : Heap) (F : Fld Z h0 a "com/example/collectary/collectary/broker/Criterion" "metStrictly" "J" (.long w)) : Con l Z (⟨"com/example/collectary/collectary/broker/Criterion", "metStrictly", "()J"⟩ : MethodName) prog_5_method_5_code 1 (some .long) [] ({ frames := 0, cells := 0, slots := 0, locals := 0 } : Room) #[(.ref a)] h0 (fun v h L => v = some (.long w) ∧ L = [] ∧ h = h0) := by
  refine Con.of pn_com_example_collectary_collectary_broker_Criterion ?_
  intro p e s m below meth c T X hx hby hml hown hnm hret eT hZ hsh Φ fin
  replace hown : s.vm.findClass "com/example/collectary/collectary/broker/Criterion" = some m.cls := hown
  replace hml : 1 = c.maxLocals := hml.symm
  refine own_step (fun t k => castTop (ef_rm_metStrictly m a) k) ?_
  refine own_aloadN X hx hby d_prog_5_method_5_code_0 rfl rfl (pc' := 1) rfl ?_
  obtain ⟨T1, X1, e1, st1⟩ := getF X hx hZ hown (host := "") (Or.inl (own_w hw 28 rfl)) Via.refl eT F (g := (mkF m 1 #[.val (.ref a)] [(.ref a)])) rfl rfl (hb hby d_prog_5_method_5_code_1)
  refine own_step st1 ?_
  show GoP p e below Φ (T1.setTop (mkF m 4 #[.val (.ref a)] [(.long w)]))
  exact own_retJ X1 hx hby fin hret d_prog_5_method_5_code_4 (by decide) (by decide) ⟨rfl, rfl, e1⟩
theorem ef_rmI (m : MethodId) (x0 : Addr) : entryFrame m #[(.ref x0)] 1 = mkF m 0 #[.val (.ref x0)] [] := by first | (simp [entryFrame, mkF, argsToLocals, Value.category]; done) | rfl
theorem d_prog_5_method_1_code_0 : decode prog_5_method_1_code 0 = .ok (.aload_n 0, 1) := by decide +kernel
theorem d_prog_5_method_1_code_1 : decode prog_5_method_1_code 1 = .ok (.invokespecial 1, 3) := by decide +kernel
theorem d_prog_5_method_1_code_4 : decode prog_5_method_1_code 4 = .ok (.return_, 1) := by decide +kernel
set_option maxRecDepth 65536 in
set_option maxHeartbeats 40000000 in
theorem rmI (l : Launch) (Z : State) (a0 : Array Value) (hw : ∀ d ∈ tables_1, d.before a0 Z = true) (a : Addr) (h0 : Heap)  : Con l Z (⟨"com/example/collectary/collectary/broker/Criterion", "<init>", "()V"⟩ : MethodName) prog_5_method_1_code 1 none [] ({ frames := 1, cells := 0, slots := 0, locals := 12 } : Room) #[(.ref a)] h0 (fun v h L => v = none ∧ L = [] ∧ h = h0) := by
  refine Con.of pn_com_example_collectary_collectary_broker_Criterion ?_
  intro p e s m below meth c T X hx hby hml hown hnm hret eT hZ hsh Φ fin
  replace hown : s.vm.findClass "com/example/collectary/collectary/broker/Criterion" = some m.cls := hown
  replace hml : 1 = c.maxLocals := hml.symm
  refine own_step (fun t k => castTop (ef_rmI m a) k) ?_
  refine own_aloadN X hx hby d_prog_5_method_1_code_0 rfl rfl (pc' := 1) rfl ?_
  obtain ⟨T1, X1, e1, st1⟩ := initO X hx hZ hown (own_w hw 6 rfl) (own_w hw 7 rfl) (own_w hw 8 rfl) eT (g := (mkF m 1 #[.val (.ref a)] [(.ref a)])) rfl hml rfl (hb hby d_prog_5_method_1_code_1) (by decide) (W := 0) (by show 2 * 0 + _ ≤ _; exact Nat.le_of_eq rfl) (by decide)
  refine own_step st1 ?_
  show GoP p e below Φ (T1.setTop (mkF m 4 #[.val (.ref a)] []))
  exact own_ret0 X1 hx hby fin hret d_prog_5_method_1_code_4 (by decide) (by decide) ⟨rfl, rfl, e1⟩
theorem ef_rmA (m : MethodId) (x0 : Addr) (x1 : Int32) (x2 : Int32) : entryFrame m #[(.ref x0), (.int x1), (.int x2)] 3 = mkF m 0 #[.val (.ref x0), .val (.int x1), .val (.int x2)] [] := by first | (simp [entryFrame, mkF, argsToLocals, Value.category]; done) | rfl
theorem d_prog_5_method_2_code_0 : decode prog_5_method_2_code 0 = .ok (.aload_n 0, 1) := by decide +kernel
theorem d_prog_5_method_2_code_1 : decode prog_5_method_2_code 1 = .ok (.dup, 1) := by decide +kernel
theorem d_prog_5_method_2_code_2 : decode prog_5_method_2_code 2 = .ok (.getfield 7, 3) := by decide +kernel
theorem d_prog_5_method_2_code_5 : decode prog_5_method_2_code 5 = .ok (.lconst 1, 1) := by decide +kernel
theorem d_prog_5_method_2_code_6 : decode prog_5_method_2_code 6 = .ok (.ladd, 1) := by decide +kernel
theorem d_prog_5_method_2_code_7 : decode prog_5_method_2_code 7 = .ok (.putfield 7, 3) := by decide +kernel
theorem d_prog_5_method_2_code_10 : decode prog_5_method_2_code 10 = .ok (.iload_n 1, 1) := by decide +kernel
theorem d_prog_5_method_2_code_11 : decode prog_5_method_2_code 11 = .ok (.ifCond .eq 13, 3) := by decide +kernel
theorem d_prog_5_method_2_code_24 : decode prog_5_method_2_code 24 = .ok (.iload_n 2, 1) := by decide +kernel
theorem d_prog_5_method_2_code_25 : decode prog_5_method_2_code 25 = .ok (.ifCond .eq 13, 3) := by decide +kernel
theorem d_prog_5_method_2_code_38 : decode prog_5_method_2_code 38 = .ok (.return_, 1) := by decide +kernel
theorem d_prog_5_method_2_code_28 : decode prog_5_method_2_code 28 = .ok (.aload_n 0, 1) := by decide +kernel
theorem d_prog_5_method_2_code_29 : decode prog_5_method_2_code 29 = .ok (.dup, 1) := by decide +kernel
theorem d_prog_5_method_2_code_30 : decode prog_5_method_2_code 30 = .ok (.getfield 16, 3) := by decide +kernel
theorem d_prog_5_method_2_code_33 : decode prog_5_method_2_code 33 = .ok (.lconst 1, 1) := by decide +kernel
theorem d_prog_5_method_2_code_34 : decode prog_5_method_2_code 34 = .ok (.ladd, 1) := by decide +kernel
theorem d_prog_5_method_2_code_35 : decode prog_5_method_2_code 35 = .ok (.putfield 16, 3) := by decide +kernel
theorem d_prog_5_method_2_code_14 : decode prog_5_method_2_code 14 = .ok (.aload_n 0, 1) := by decide +kernel
theorem d_prog_5_method_2_code_15 : decode prog_5_method_2_code 15 = .ok (.dup, 1) := by decide +kernel
theorem d_prog_5_method_2_code_16 : decode prog_5_method_2_code 16 = .ok (.getfield 13, 3) := by decide +kernel
theorem d_prog_5_method_2_code_19 : decode prog_5_method_2_code 19 = .ok (.lconst 1, 1) := by decide +kernel
theorem d_prog_5_method_2_code_20 : decode prog_5_method_2_code 20 = .ok (.ladd, 1) := by decide +kernel
theorem d_prog_5_method_2_code_21 : decode prog_5_method_2_code 21 = .ok (.putfield 13, 3) := by decide +kernel
set_option maxRecDepth 65536 in
set_option maxHeartbeats 40000000 in
theorem rmA (l : Launch) (Z : State) (a0 : Array Value) (hw : ∀ d ∈ tables_1, d.before a0 Z = true) (a : Addr) (p1 p2 : Int32) (w0 w1 w2 : Int64) (n0 : Nat) (h0 : Heap) (n0_a : n0 ≤ a) (E : Exa Z h0 a "com/example/collectary/collectary/broker/Criterion") (F0 : Fld Z h0 a "com/example/collectary/collectary/broker/Criterion" "queries" "J" (.long w0)) (F1 : Fld Z h0 a "com/example/collectary/collectary/broker/Criterion" "met" "J" (.long w1)) (F2 : Fld Z h0 a "com/example/collectary/collectary/broker/Criterion" "metStrictly" "J" (.long w2)) : Con l Z (⟨"com/example/collectary/collectary/broker/Criterion", "add", "(ZZ)V"⟩ : MethodName) prog_5_method_2_code 3 none [] ({ frames := 0, cells := 0, slots := 0, locals := 0 } : Room) #[(.ref a), (.int p1), (.int p2)] h0 (fun v h L => v = none ∧ Fr n0 L ∧ Keep h0 h [a] ∧ Exa Z h a "com/example/collectary/collectary/broker/Criterion" ∧ Fld Z h a "com/example/collectary/collectary/broker/Criterion" "queries" "J" (.long (w0 + (1 : Int64))) ∧ Fld Z h a "com/example/collectary/collectary/broker/Criterion" "met" "J" (.long (w1 + (own_bit p1).toInt64)) ∧ Fld Z h a "com/example/collectary/collectary/broker/Criterion" "metStrictly" "J" (.long (w2 + (own_bit p2).toInt64))) := by
  refine Con.of pn_com_example_collectary_collectary_broker_Criterion ?_
  intro p e s m below meth c T X hx hby hml hown hnm hret eT hZ hsh Φ fin
  replace hown : s.vm.findClass "com/example/collectary/collectary/broker/Criterion" = some m.cls := hown
  replace hml : 3 = c.maxLocals := hml.symm
  refine own_step (fun t k => castTop (ef_rmA m a p1 p2) k) ?_
  have N0 := Fr.nil n0
  have K0 : Keep h0 h0 [a] := Keep.refl h0 [a]
  refine own_aloadN X hx hby d_prog_5_method_2_code_0 rfl rfl (pc' := 1) rfl ?_
  refine own_dup X hx hby d_prog_5_method_2_code_1 rfl (pc' := 2) rfl ?_
  obtain ⟨T1, X1, e1, st1⟩ := getF X hx hZ hown (host := "") (Or.inl (own_w hw 14 rfl)) Via.refl eT F0 (g := (mkF m 2 #[.val (.ref a), .val (.int p1), .val (.int p2)] [(.ref a), (.ref a)])) rfl rfl (hb hby d_prog_5_method_2_code_2)
  refine own_step st1 ?_
  show GoP p e below Φ (T1.setTop (mkF m 5 #[.val (.ref a), .val (.int p1), .val (.int p2)] [(.long w0), (.ref a)]))
  refine own_lconst X1 hx hby d_prog_5_method_2_code_5 (v := (1 : Int64)) rfl (pc' := 6) rfl ?_
  refine own_ladd X1 hx hby d_prog_5_method_2_code_6 (pc' := 7) rfl ?_
  obtain ⟨T2, h2, X2, e2, W2, st2⟩ := putF X1 hx hZ hown (host := "") (Or.inl (own_w hw 14 rfl)) Via.refl e1 F0 E (Or.inl (own_w hw 15 rfl)) (own_w hw 1 rfl) (ty := .long) (by decide) rfl rfl (g := (mkF m 7 #[.val (.ref a), .val (.int p1), .val (.int p2)] [(.long (w0 + (1 : Int64))), (.ref a)])) rfl rfl (hb hby d_prog_5_method_2_code_7)
  refine own_step st2 ?_
  have E3_a := E.wr W2
  have F4_queries := F0.same W2
  have F5_met := F1.other W2 (Or.inr (slot_ne (Or.inl (own_w hw 22 rfl)) (Or.inl (own_w hw 15 rfl)) (by decide) (t := .long) (t' := .long) (by decide) (by decide)))
  have F6_metStrictly := F2.other W2 (Or.inr (slot_ne (Or.inl (own_w hw 29 rfl)) (Or.inl (own_w hw 15 rfl)) (by decide) (t := .long) (t' := .long) (by decide) (by decide)))
  have N2 := Fr.snoc X2 N0 n0_a
  have K2 : Keep h0 h2 [a] := K0.wr W2 (Or.inl (List.mem_of_getElem? (i := 0) rfl))
  show GoP p e below Φ (T2.setTop (mkF m 10 #[.val (.ref a), .val (.int p1), .val (.int p2)] []))
  refine own_iloadN X2 hx hby d_prog_5_method_2_code_10 rfl (pc' := 11) rfl ?_
  by_cases hc11_7 : p1 = (0 : Int32)
  · refine own_ifY X2 hx hby d_prog_5_method_2_code_11 ((if0 _ _).trans (teq hc11_7).1) (by decide) (pc' := 24) (by decide) ?_
    refine own_iloadN X2 hx hby d_prog_5_method_2_code_24 rfl (pc' := 25) rfl ?_
    by_cases hc25_8 : p2 = (0 : Int32)
    · refine own_ifY X2 hx hby d_prog_5_method_2_code_25 ((if0 _ _).trans (teq hc25_8).1) (by decide) (pc' := 38) (by decide) ?_
      exact own_ret0 X2 hx hby fin hret d_prog_5_method_2_code_38 (by decide) (by decide) (by rw [e2]; exact ⟨rfl, N2, K2, E3_a, F4_queries, (by rw [own_bit0 _ hc11_7]; exact F5_met), (by rw [own_bit0 _ hc25_8]; exact F6_metStrictly)⟩)
    · refine own_ifN X2 hx hby d_prog_5_method_2_code_25 ((if0 _ _).trans (feq hc25_8).1) (pc' := 28) rfl ?_
      refine own_aloadN X2 hx hby d_prog_5_method_2_code_28 rfl rfl (pc' := 29) rfl ?_
      refine own_dup X2 hx hby d_prog_5_method_2_code_29 rfl (pc' := 30) rfl ?_
      obtain ⟨T9, X9, e9, st9⟩ := getF X2 hx hZ hown (host := "") (Or.inl (own_w hw 28 rfl)) Via.refl e2 F6_metStrictly (g := (mkF m 30 #[.val (.ref a), .val (.int p1), .val (.int p2)] [(.ref a), (.ref a)])) rfl rfl (hb hby d_prog_5_method_2_code_30)
      refine own_step st9 ?_
      show GoP p e below Φ (T9.setTop (mkF m 33 #[.val (.ref a), .val (.int p1), .val (.int p2)] [(.long w2), (.ref a)]))
      refine own_lconst X9 hx hby d_prog_5_method_2_code_33 (v := (1 : Int64)) rfl (pc' := 34) rfl ?_
      refine own_ladd X9 hx hby d_prog_5_method_2_code_34 (pc' := 35) rfl ?_
      obtain ⟨T10, h10, X10, e10, W10, st10⟩ := putF X9 hx hZ hown (host := "") (Or.inl (own_w hw 28 rfl)) Via.refl e9 F6_metStrictly E3_a (Or.inl (own_w hw 29 rfl)) (own_w hw 1 rfl) (ty := .long) (by decide) rfl rfl (g := (mkF m 35 #[.val (.ref a), .val (.int p1), .val (.int p2)] [(.long (w2 + (1 : Int64))), (.ref a)])) rfl rfl (hb hby d_prog_5_method_2_code_35)
      refine own_step st10 ?_
      have E11_a := E3_a.wr W10
      have F12_queries := F4_queries.other W10 (Or.inr (slot_ne (Or.inl (own_w hw 15 rfl)) (Or.inl (own_w hw 29 rfl)) (by decide) (t := .long) (t' := .long) (by decide) (by decide)))
      have F13_met := F5_met.other W10 (Or.inr (slot_ne (Or.inl (own_w hw 22 rfl)) (Or.inl (own_w hw 29 rfl)) (by decide) (t := .long) (t' := .long) (by decide) (by decide)))
      have F14_metStrictly := F6_metStrictly.same W10
      have N10 := Fr.snoc X10 N2 n0_a
      have K10 : Keep h0 h10 [a] := K2.wr W10 (Or.inl (List.mem_of_getElem? (i := 0) rfl))
      show GoP p e below Φ (T10.setTop (mkF m 38 #[.val (.ref a), .val (.int p1), .val (.int p2)] []))
      exact own_ret0 X10 hx hby fin hret d_prog_5_method_2_code_38 (by decide) (by decide) (by rw [e10]; exact ⟨rfl, N10, K10, E11_a, F12_queries, (by rw [own_bit0 _ hc11_7]; exact F13_met), (by rw [own_bit1 _ hc25_8]; exact F14_metStrictly)⟩)
  · refine own_ifN X2 hx hby d_prog_5_method_2_code_11 ((if0 _ _).trans (feq hc11_7).1) (pc' := 14) rfl ?_
    refine own_aloadN X2 hx hby d_prog_5_method_2_code_14 rfl rfl (pc' := 15) rfl ?_
    refine own_dup X2 hx hby d_prog_5_method_2_code_15 rfl (pc' := 16) rfl ?_
    obtain ⟨T15, X15, e15, st15⟩ := getF X2 hx hZ hown (host := "") (Or.inl (own_w hw 21 rfl)) Via.refl e2 F5_met (g := (mkF m 16 #[.val (.ref a), .val (.int p1), .val (.int p2)] [(.ref a), (.ref a)])) rfl rfl (hb hby d_prog_5_method_2_code_16)
    refine own_step st15 ?_
    show GoP p e below Φ (T15.setTop (mkF m 19 #[.val (.ref a), .val (.int p1), .val (.int p2)] [(.long w1), (.ref a)]))
    refine own_lconst X15 hx hby d_prog_5_method_2_code_19 (v := (1 : Int64)) rfl (pc' := 20) rfl ?_
    refine own_ladd X15 hx hby d_prog_5_method_2_code_20 (pc' := 21) rfl ?_
    obtain ⟨T16, h16, X16, e16, W16, st16⟩ := putF X15 hx hZ hown (host := "") (Or.inl (own_w hw 21 rfl)) Via.refl e15 F5_met E3_a (Or.inl (own_w hw 22 rfl)) (own_w hw 1 rfl) (ty := .long) (by decide) rfl rfl (g := (mkF m 21 #[.val (.ref a), .val (.int p1), .val (.int p2)] [(.long (w1 + (1 : Int64))), (.ref a)])) rfl rfl (hb hby d_prog_5_method_2_code_21)
    refine own_step st16 ?_
    have E17_a := E3_a.wr W16
    have F18_queries := F4_queries.other W16 (Or.inr (slot_ne (Or.inl (own_w hw 15 rfl)) (Or.inl (own_w hw 22 rfl)) (by decide) (t := .long) (t' := .long) (by decide) (by decide)))
    have F19_met := F5_met.same W16
    have F20_metStrictly := F6_metStrictly.other W16 (Or.inr (slot_ne (Or.inl (own_w hw 29 rfl)) (Or.inl (own_w hw 22 rfl)) (by decide) (t := .long) (t' := .long) (by decide) (by decide)))
    have N16 := Fr.snoc X16 N2 n0_a
    have K16 : Keep h0 h16 [a] := K2.wr W16 (Or.inl (List.mem_of_getElem? (i := 0) rfl))
    show GoP p e below Φ (T16.setTop (mkF m 24 #[.val (.ref a), .val (.int p1), .val (.int p2)] []))
    refine own_iloadN X16 hx hby d_prog_5_method_2_code_24 rfl (pc' := 25) rfl ?_
    by_cases hc25_21 : p2 = (0 : Int32)
    · refine own_ifY X16 hx hby d_prog_5_method_2_code_25 ((if0 _ _).trans (teq hc25_21).1) (by decide) (pc' := 38) (by decide) ?_
      exact own_ret0 X16 hx hby fin hret d_prog_5_method_2_code_38 (by decide) (by decide) (by rw [e16]; exact ⟨rfl, N16, K16, E17_a, F18_queries, (by rw [own_bit1 _ hc11_7]; exact F19_met), (by rw [own_bit0 _ hc25_21]; exact F20_metStrictly)⟩)
    · refine own_ifN X16 hx hby d_prog_5_method_2_code_25 ((if0 _ _).trans (feq hc25_21).1) (pc' := 28) rfl ?_
      refine own_aloadN X16 hx hby d_prog_5_method_2_code_28 rfl rfl (pc' := 29) rfl ?_
      refine own_dup X16 hx hby d_prog_5_method_2_code_29 rfl (pc' := 30) rfl ?_
      obtain ⟨T22, X22, e22, st22⟩ := getF X16 hx hZ hown (host := "") (Or.inl (own_w hw 28 rfl)) Via.refl e16 F20_metStrictly (g := (mkF m 30 #[.val (.ref a), .val (.int p1), .val (.int p2)] [(.ref a), (.ref a)])) rfl rfl (hb hby d_prog_5_method_2_code_30)
      refine own_step st22 ?_
      show GoP p e below Φ (T22.setTop (mkF m 33 #[.val (.ref a), .val (.int p1), .val (.int p2)] [(.long w2), (.ref a)]))
      refine own_lconst X22 hx hby d_prog_5_method_2_code_33 (v := (1 : Int64)) rfl (pc' := 34) rfl ?_
      refine own_ladd X22 hx hby d_prog_5_method_2_code_34 (pc' := 35) rfl ?_
      obtain ⟨T23, h23, X23, e23, W23, st23⟩ := putF X22 hx hZ hown (host := "") (Or.inl (own_w hw 28 rfl)) Via.refl e22 F20_metStrictly E17_a (Or.inl (own_w hw 29 rfl)) (own_w hw 1 rfl) (ty := .long) (by decide) rfl rfl (g := (mkF m 35 #[.val (.ref a), .val (.int p1), .val (.int p2)] [(.long (w2 + (1 : Int64))), (.ref a)])) rfl rfl (hb hby d_prog_5_method_2_code_35)
      refine own_step st23 ?_
      have E24_a := E17_a.wr W23
      have F25_queries := F18_queries.other W23 (Or.inr (slot_ne (Or.inl (own_w hw 15 rfl)) (Or.inl (own_w hw 29 rfl)) (by decide) (t := .long) (t' := .long) (by decide) (by decide)))
      have F26_met := F19_met.other W23 (Or.inr (slot_ne (Or.inl (own_w hw 22 rfl)) (Or.inl (own_w hw 29 rfl)) (by decide) (t := .long) (t' := .long) (by decide) (by decide)))
      have F27_metStrictly := F20_metStrictly.same W23
      have N23 := Fr.snoc X23 N16 n0_a
      have K23 : Keep h0 h23 [a] := K16.wr W23 (Or.inl (List.mem_of_getElem? (i := 0) rfl))
      show GoP p e below Φ (T23.setTop (mkF m 38 #[.val (.ref a), .val (.int p1), .val (.int p2)] []))
      exact own_ret0 X23 hx hby fin hret d_prog_5_method_2_code_38 (by decide) (by decide) (by rw [e23]; exact ⟨rfl, N23, K23, E24_a, F25_queries, (by rw [own_bit1 _ hc11_7]; exact F26_met), (by rw [own_bit1 _ hc25_21]; exact F27_metStrictly)⟩)
theorem ef_rm0 (m : MethodId) (x0 : Int32) (x1 : Int32) (x2 : Int32) (x3 : Int32) : entryFrame m #[(.int x0), (.int x1), (.int x2), (.int x3)] maxLocals = mkF m 0 #[.val (.int x0), .val (.int x1), .val (.int x2), .val (.int x3), .unset, .unset, .unset, .unset, .unset, .unset, .unset, .unset, .unset, .unset, .unset, .unset] [] := by first | (simp [entryFrame, mkF, argsToLocals, Value.category, maxLocals]; done) | rfl
theorem pd___V : parseMethodDescriptor "()V" = some ⟨[], none⟩ := by decide +kernel
theorem pd___J : parseMethodDescriptor "()J" = some ⟨[], some .long⟩ := by decide +kernel
theorem pd__ZZ_V : parseMethodDescriptor "(ZZ)V" = some ⟨[.boolean, .boolean], none⟩ := by decide +kernel
theorem pd__Z_I : parseMethodDescriptor "(Z)I" = some ⟨[.boolean], some .int⟩ := by decide +kernel
set_option maxRecDepth 65536 in
set_option maxHeartbeats 40000000 in
theorem rm0 (l : Launch) (Z : State) (a0 : Array Value) (hw : ∀ d ∈ tables_1, d.before a0 Z = true) (p1 p2 p3 p4 : Int32) (n0 : Nat) (h0 : Heap) (Z0 : n0 ≤ h0.size) : Con l Z x code maxLocals ret tables_1 room_1 #[(.int p1), (.int p2), (.int p3), (.int p4)] h0 (fun v h L => v = some (.int 1) ∧ Fr n0 L) := by
  refine Con.of pn_com_example_collectary_collectary_broker_CriterionAddPinLaw ?_
  intro p e s m below meth c T X hx hby hml hown hnm hret eT hZ hsh Φ fin
  replace hown : s.vm.findClass "com/example/collectary/collectary/broker/CriterionAddPinLaw" = some m.cls := hown
  replace hml : 16 = c.maxLocals := hml.symm
  refine own_step (fun t k => castTop (ef_rm0 m p1 p2 p3 p4) k) ?_
  replace hret : meth.sig.returnType = (some .boolean) := hret
  have N0 := Fr.nil n0
  have J98 : ∀ z5 z6 z7 z8 z9 z10 : Int32, GoP p e below Φ (T.setTop (mkF m 98 #[.val (.int p1), .val (.int p2), .val (.int p3), .val (.int p4), .val (.int (p1 &&& (3 : Int32))), .val (.int z5), .val (.int z6), .val (.int z7), .val (.int z8), .val (.int z9), .val (.int z10), .unset, .unset, .unset, .unset, .unset] [])) := by
    intro z5 z6 z7 z8 z9 z10
    rcases own_four p1 with q4 | q4 | q4 | q4
    · rw [q4]
      obtain ⟨T1, h1, X1, e1, E1, A1, D1, -, st1⟩ := newO X hx hZ hown (own_w hw 0 rfl) (own_w hw 1 rfl) (own_w hw 2 rfl) eT (g := (mkF m 98 #[.val (.int p1), .val (.int p2), .val (.int p3), .val (.int p4), .val (.int (0 : Int32)), .val (.int z5), .val (.int z6), .val (.int z7), .val (.int z8), .val (.int z9), .val (.int z10), .unset, .unset, .unset, .unset, .unset] [])) rfl (hb hby at_98) (by decide) (by decide)
      obtain ⟨b1, g1⟩ : ∃ z, z = h0.size := ⟨_, rfl⟩
      have Z1 : n0 ≤ h1.size := Nat.le_trans Z0 E1.1
      have n0_b1 : n0 ≤ b1 := g1 ▸ Z0
      rw [← g1] at A1 D1 st1
      refine own_step st1 ?_
      have F1_queries : Fld Z h1 b1 "com/example/collectary/collectary/broker/Criterion" "queries" "J" (.long (0 : Int64)) := D1 (Or.inl (own_w hw 15 rfl)) (ty := .long) (by decide)
      have F1_met : Fld Z h1 b1 "com/example/collectary/collectary/broker/Criterion" "met" "J" (.long (0 : Int64)) := D1 (Or.inl (own_w hw 22 rfl)) (ty := .long) (by decide)
      have F1_metStrictly : Fld Z h1 b1 "com/example/collectary/collectary/broker/Criterion" "metStrictly" "J" (.long (0 : Int64)) := D1 (Or.inl (own_w hw 29 rfl)) (ty := .long) (by decide)
      show GoP p e below Φ (T1.setTop (mkF m 101 #[.val (.int p1), .val (.int p2), .val (.int p3), .val (.int p4), .val (.int (0 : Int32)), .val (.int z5), .val (.int z6), .val (.int z7), .val (.int z8), .val (.int z9), .val (.int z10), .unset, .unset, .unset, .unset, .unset] [(.ref b1)]))
      refine own_dup X1 hx hby at_101 rfl (pc' := 102) rfl ?_
      refine own_callI X1 hx hby hZ (by exact hml) hown rfl (own_w hw 3 rfl) (own_w hw 4 rfl) (own_w hw 2 rfl) (own_w hw 5 rfl) (by decide) e1 1 (by decide) (by decide) (by decide) (by decide) (argsL := []) (rest := [(.ref b1)]) (lenOf pd___V rfl) rfl (Nat.le_of_eq rfl) (rmI l Z a0 hw b1 h1) at_102 (pc' := 105) rfl ?_
      intro v2 T2 L2 X2 hQ2
      obtain ⟨rfl, rfl, e2⟩ := hQ2
      rw [List.append_nil] at X2
      replace e2 : T2.heap = h1 := e2
      show GoP p e below Φ (T2.setTop (mkF m 105 #[.val (.int p1), .val (.int p2), .val (.int p3), .val (.int p4), .val (.int (0 : Int32)), .val (.int z5), .val (.int z6), .val (.int z7), .val (.int z8), .val (.int z9), .val (.int z10), .unset, .unset, .unset, .unset, .unset] [(.ref b1)]))
      refine own_astore X2 hx hby at_105 rfl (Ls' := #[.val (.int p1), .val (.int p2), .val (.int p3), .val (.int p4), .val (.int (0 : Int32)), .val (.int z5), .val (.int z6), .val (.int z7), .val (.int z8), .val (.int z9), .val (.int z10), .val (.ref b1), .unset, .unset, .unset, .unset]) rfl (pc' := 107) rfl ?_
      refine own_lconst X2 hx hby at_107 (v := (0 : Int64)) rfl (pc' := 108) rfl ?_
      refine own_lstore X2 hx hby at_108  (Ls' := #[.val (.int p1), .val (.int p2), .val (.int p3), .val (.int p4), .val (.int (0 : Int32)), .val (.int z5), .val (.int z6), .val (.int z7), .val (.int z8), .val (.int z9), .val (.int z10), .val (.ref b1), .val (.long (0 : Int64)), .second, .unset, .unset]) rfl (pc' := 110) rfl ?_
      refine own_lconst X2 hx hby at_110 (v := (0 : Int64)) rfl (pc' := 111) rfl ?_
      refine own_lstore X2 hx hby at_111  (Ls' := #[.val (.int p1), .val (.int p2), .val (.int p3), .val (.int p4), .val (.int (0 : Int32)), .val (.int z5), .val (.int z6), .val (.int z7), .val (.int z8), .val (.int z9), .val (.int z10), .val (.ref b1), .val (.long (0 : Int64)), .second, .val (.long (0 : Int64)), .second]) rfl (pc' := 113) rfl ?_
      refine own_iload X2 hx hby at_113 rfl (pc' := 115) rfl ?_
      refine own_iconst X2 hx hby at_115 (v := (1 : Int32)) rfl (pc' := 116) rfl ?_
      refine own_icmpY X2 hx hby at_116 (tlt (by decide)).1 (by decide) (pc' := 150) (by decide) ?_
      refine own_iload X2 hx hby at_150 rfl (pc' := 152) rfl ?_
      refine own_iconst X2 hx hby at_152 (v := (2 : Int32)) rfl (pc' := 153) rfl ?_
      refine own_icmpY X2 hx hby at_153 (tlt (by decide)).1 (by decide) (pc' := 187) (by decide) ?_
      refine own_iload X2 hx hby at_187 rfl (pc' := 189) rfl ?_
      refine own_iconst X2 hx hby at_189 (v := (3 : Int32)) rfl (pc' := 190) rfl ?_
      refine own_icmpY X2 hx hby at_190 (tlt (by decide)).1 (by decide) (pc' := 224) (by decide) ?_
      refine own_aload X2 hx hby at_224 rfl rfl (pc' := 226) rfl ?_
      refine own_callV X2 hx hby hZ (by exact hml) hown (own_w hw 9 rfl) (own_w hw 10 rfl) (own_w hw 12 rfl) (own_w hw 11 rfl) (own_w hw 2 rfl) (own_w hw 13 rfl) (by decide) e2 0 (by decide) (by decide) (by decide) (by decide) (argsL := []) (rest := []) (lenOf pd___J rfl) rfl (Nat.le_of_eq rfl) A1 (rm_queries l Z a0 hw b1 (0 : Int64) h1 F1_queries) at_226 (pc' := 229) rfl ?_
      intro v3 T3 L3 X3 hQ3
      obtain ⟨rfl, rfl, e3⟩ := hQ3
      rw [List.append_nil] at X3
      replace e3 : T3.heap = h1 := e3
      show GoP p e below Φ (T3.setTop (mkF m 229 #[.val (.int p1), .val (.int p2), .val (.int p3), .val (.int p4), .val (.int (0 : Int32)), .val (.int z5), .val (.int z6), .val (.int z7), .val (.int z8), .val (.int z9), .val (.int z10), .val (.ref b1), .val (.long (0 : Int64)), .second, .val (.long (0 : Int64)), .second] [(.long (0 : Int64))]))
      refine own_iload X3 hx hby at_229 rfl (pc' := 231) rfl ?_
      refine own_i2l X3 hx hby at_231 (pc' := 232) rfl ?_
      refine own_lcmp X3 hx hby at_232 (pc' := 233) rfl ?_
      refine own_ifN X3 hx hby at_233 ((if0 _ _).trans (teq ((lw_eq _ _).mpr (by decide))).2) (pc' := 236) rfl ?_
      refine own_aload X3 hx hby at_236 rfl rfl (pc' := 238) rfl ?_
      refine own_callV X3 hx hby hZ (by exact hml) hown (own_w hw 16 rfl) (own_w hw 17 rfl) (own_w hw 19 rfl) (own_w hw 18 rfl) (own_w hw 2 rfl) (own_w hw 20 rfl) (by decide) e3 0 (by decide) (by decide) (by decide) (by decide) (argsL := []) (rest := []) (lenOf pd___J rfl) rfl (Nat.le_of_eq rfl) A1 (rm_met l Z a0 hw b1 (0 : Int64) h1 F1_met) at_238 (pc' := 241) rfl ?_
      intro v4 T4 L4 X4 hQ4
      obtain ⟨rfl, rfl, e4⟩ := hQ4
      rw [List.append_nil] at X4
      replace e4 : T4.heap = h1 := e4
      show GoP p e below Φ (T4.setTop (mkF m 241 #[.val (.int p1), .val (.int p2), .val (.int p3), .val (.int p4), .val (.int (0 : Int32)), .val (.int z5), .val (.int z6), .val (.int z7), .val (.int z8), .val (.int z9), .val (.int z10), .val (.ref b1), .val (.long (0 : Int64)), .second, .val (.long (0 : Int64)), .second] [(.long (0 : Int64))]))
      refine own_lload X4 hx hby at_241 rfl (pc' := 243) rfl ?_
      refine own_lcmp X4 hx hby at_243 (pc' := 244) rfl ?_
      refine own_ifN X4 hx hby at_244 ((if0 _ _).trans (teq ((lw_eq _ _).mpr rfl)).2) (pc' := 247) rfl ?_
      refine own_aload X4 hx hby at_247 rfl rfl (pc' := 249) rfl ?_
      refine own_callV X4 hx hby hZ (by exact hml) hown (own_w hw 23 rfl) (own_w hw 24 rfl) (own_w hw 26 rfl) (own_w hw 25 rfl) (own_w hw 2 rfl) (own_w hw 27 rfl) (by decide) e4 0 (by decide) (by decide) (by decide) (by decide) (argsL := []) (rest := []) (lenOf pd___J rfl) rfl (Nat.le_of_eq rfl) A1 (rm_metStrictly l Z a0 hw b1 (0 : Int64) h1 F1_metStrictly) at_249 (pc' := 252) rfl ?_
      intro v5 T5 L5 X5 hQ5
      obtain ⟨rfl, rfl, e5⟩ := hQ5
      rw [List.append_nil] at X5
      replace e5 : T5.heap = h1 := e5
      show GoP p e below Φ (T5.setTop (mkF m 252 #[.val (.int p1), .val (.int p2), .val (.int p3), .val (.int p4), .val (.int (0 : Int32)), .val (.int z5), .val (.int z6), .val (.int z7), .val (.int z8), .val (.int z9), .val (.int z10), .val (.ref b1), .val (.long (0 : Int64)), .second, .val (.long (0 : Int64)), .second] [(.long (0 : Int64))]))
      refine own_lload X5 hx hby at_252 rfl (pc' := 254) rfl ?_
      refine own_lcmp X5 hx hby at_254 (pc' := 255) rfl ?_
      refine own_ifN X5 hx hby at_255 ((if0 _ _).trans (teq ((lw_eq _ _).mpr rfl)).2) (pc' := 258) rfl ?_
      refine own_iconst X5 hx hby at_258 (v := (1 : Int32)) rfl (pc' := 259) rfl ?_
      refine own_goto X5 hx hby at_259 (by decide) (pc' := 263) (by decide) ?_
      exact own_retN X5 hx hby fin hret (by simp) rfl at_263 (by decide) (by decide) ⟨rfl, N0⟩
    · rw [q4]
      obtain ⟨T6, h6, X6, e6, E6, A6, D6, -, st6⟩ := newO X hx hZ hown (own_w hw 0 rfl) (own_w hw 1 rfl) (own_w hw 2 rfl) eT (g := (mkF m 98 #[.val (.int p1), .val (.int p2), .val (.int p3), .val (.int p4), .val (.int (1 : Int32)), .val (.int z5), .val (.int z6), .val (.int z7), .val (.int z8), .val (.int z9), .val (.int z10), .unset, .unset, .unset, .unset, .unset] [])) rfl (hb hby at_98) (by decide) (by decide)
      obtain ⟨b6, g6⟩ : ∃ z, z = h0.size := ⟨_, rfl⟩
      have Z6 : n0 ≤ h6.size := Nat.le_trans Z0 E6.1
      have n0_b6 : n0 ≤ b6 := g6 ▸ Z0
      rw [← g6] at A6 D6 st6
      refine own_step st6 ?_
      have F6_queries : Fld Z h6 b6 "com/example/collectary/collectary/broker/Criterion" "queries" "J" (.long (0 : Int64)) := D6 (Or.inl (own_w hw 15 rfl)) (ty := .long) (by decide)
      have F6_met : Fld Z h6 b6 "com/example/collectary/collectary/broker/Criterion" "met" "J" (.long (0 : Int64)) := D6 (Or.inl (own_w hw 22 rfl)) (ty := .long) (by decide)
      have F6_metStrictly : Fld Z h6 b6 "com/example/collectary/collectary/broker/Criterion" "metStrictly" "J" (.long (0 : Int64)) := D6 (Or.inl (own_w hw 29 rfl)) (ty := .long) (by decide)
      show GoP p e below Φ (T6.setTop (mkF m 101 #[.val (.int p1), .val (.int p2), .val (.int p3), .val (.int p4), .val (.int (1 : Int32)), .val (.int z5), .val (.int z6), .val (.int z7), .val (.int z8), .val (.int z9), .val (.int z10), .unset, .unset, .unset, .unset, .unset] [(.ref b6)]))
      refine own_dup X6 hx hby at_101 rfl (pc' := 102) rfl ?_
      refine own_callI X6 hx hby hZ (by exact hml) hown rfl (own_w hw 3 rfl) (own_w hw 4 rfl) (own_w hw 2 rfl) (own_w hw 5 rfl) (by decide) e6 1 (by decide) (by decide) (by decide) (by decide) (argsL := []) (rest := [(.ref b6)]) (lenOf pd___V rfl) rfl (Nat.le_of_eq rfl) (rmI l Z a0 hw b6 h6) at_102 (pc' := 105) rfl ?_
      intro v7 T7 L7 X7 hQ7
      obtain ⟨rfl, rfl, e7⟩ := hQ7
      rw [List.append_nil] at X7
      replace e7 : T7.heap = h6 := e7
      show GoP p e below Φ (T7.setTop (mkF m 105 #[.val (.int p1), .val (.int p2), .val (.int p3), .val (.int p4), .val (.int (1 : Int32)), .val (.int z5), .val (.int z6), .val (.int z7), .val (.int z8), .val (.int z9), .val (.int z10), .unset, .unset, .unset, .unset, .unset] [(.ref b6)]))
      refine own_astore X7 hx hby at_105 rfl (Ls' := #[.val (.int p1), .val (.int p2), .val (.int p3), .val (.int p4), .val (.int (1 : Int32)), .val (.int z5), .val (.int z6), .val (.int z7), .val (.int z8), .val (.int z9), .val (.int z10), .val (.ref b6), .unset, .unset, .unset, .unset]) rfl (pc' := 107) rfl ?_
      refine own_lconst X7 hx hby at_107 (v := (0 : Int64)) rfl (pc' := 108) rfl ?_
      refine own_lstore X7 hx hby at_108  (Ls' := #[.val (.int p1), .val (.int p2), .val (.int p3), .val (.int p4), .val (.int (1 : Int32)), .val (.int z5), .val (.int z6), .val (.int z7), .val (.int z8), .val (.int z9), .val (.int z10), .val (.ref b6), .val (.long (0 : Int64)), .second, .unset, .unset]) rfl (pc' := 110) rfl ?_
      refine own_lconst X7 hx hby at_110 (v := (0 : Int64)) rfl (pc' := 111) rfl ?_
      refine own_lstore X7 hx hby at_111  (Ls' := #[.val (.int p1), .val (.int p2), .val (.int p3), .val (.int p4), .val (.int (1 : Int32)), .val (.int z5), .val (.int z6), .val (.int z7), .val (.int z8), .val (.int z9), .val (.int z10), .val (.ref b6), .val (.long (0 : Int64)), .second, .val (.long (0 : Int64)), .second]) rfl (pc' := 113) rfl ?_
      refine own_iload X7 hx hby at_113 rfl (pc' := 115) rfl ?_
      refine own_iconst X7 hx hby at_115 (v := (1 : Int32)) rfl (pc' := 116) rfl ?_
      refine own_icmpN X7 hx hby at_116 (flt (by decide)).1 (pc' := 119) rfl ?_
      refine own_aload X7 hx hby at_119 rfl rfl (pc' := 121) rfl ?_
      refine own_iload X7 hx hby at_121 rfl (pc' := 123) rfl ?_
      refine own_iload X7 hx hby at_123 rfl (pc' := 125) rfl ?_
      refine own_callV X7 hx hby hZ (by exact hml) hown (own_w hw 30 rfl) (own_w hw 31 rfl) (own_w hw 33 rfl) (own_w hw 32 rfl) (own_w hw 2 rfl) (own_w hw 34 rfl) (by decide) e7 0 (by decide) (by decide) (by decide) (by decide) (argsL := [(.int z5), (.int z6)]) (rest := []) (lenOf pd__ZZ_V rfl) rfl (Nat.le_of_eq rfl) A6 (rmA l Z a0 hw b6 z5 z6 (0 : Int64) (0 : Int64) (0 : Int64) n0 h6 n0_b6 A6 F6_queries F6_met F6_metStrictly) at_125 (pc' := 128) rfl ?_
      intro v8 T8 L8 X8 hQ8
      obtain ⟨rfl, Nq8, K8, E8, FQ8, FM8, FT8⟩ := hQ8
      have N8 := Fr.app N0 Nq8
      have Z8 : n0 ≤ T8.heap.size := Nat.le_trans Z6 K8.1
      show GoP p e below Φ (T8.setTop (mkF m 128 #[.val (.int p1), .val (.int p2), .val (.int p3), .val (.int p4), .val (.int (1 : Int32)), .val (.int z5), .val (.int z6), .val (.int z7), .val (.int z8), .val (.int z9), .val (.int z10), .val (.ref b6), .val (.long (0 : Int64)), .second, .val (.long (0 : Int64)), .second] []))
      refine own_lload X8 hx hby at_128 rfl (pc' := 130) rfl ?_
      refine own_iload X8 hx hby at_130 rfl (pc' := 132) rfl ?_
      refine own_callS X8 hx hby hZ (by exact hml) hown (own_w hw 35 rfl) (own_w hw 36 rfl) (own_w hw 37 rfl) (own_w hw 38 rfl) (by decide) rfl 2 (by decide) (by decide) (by decide) (by decide) (argsL := [(.int z5)]) (rest := [(.long (0 : Int64))]) (lenOf pd__Z_I rfl) rfl (rmB l Z a0 hw z5 T8.heap) (Nat.le_of_eq rfl) at_132 (pc' := 135) rfl ?_
      intro v9 T9 L9 X9 hQ9
      obtain ⟨rfl, rfl, e9⟩ := hQ9
      rw [List.append_nil] at X9
      replace e9 : T9.heap = T8.heap := e9
      show GoP p e below Φ (T9.setTop (mkF m 135 #[.val (.int p1), .val (.int p2), .val (.int p3), .val (.int p4), .val (.int (1 : Int32)), .val (.int z5), .val (.int z6), .val (.int z7), .val (.int z8), .val (.int z9), .val (.int z10), .val (.ref b6), .val (.long (0 : Int64)), .second, .val (.long (0 : Int64)), .second] [(.int (own_bit z5)), (.long (0 : Int64))]))
      refine own_i2l X9 hx hby at_135 (pc' := 136) rfl ?_
      refine own_ladd X9 hx hby at_136 (pc' := 137) rfl ?_
      refine own_lstore X9 hx hby at_137  (Ls' := #[.val (.int p1), .val (.int p2), .val (.int p3), .val (.int p4), .val (.int (1 : Int32)), .val (.int z5), .val (.int z6), .val (.int z7), .val (.int z8), .val (.int z9), .val (.int z10), .val (.ref b6), .val (.long ((0 : Int64) + ((own_bit z5).toInt64))), .second, .val (.long (0 : Int64)), .second]) rfl (pc' := 139) rfl ?_
      refine own_lload X9 hx hby at_139 rfl (pc' := 141) rfl ?_
      refine own_iload X9 hx hby at_141 rfl (pc' := 143) rfl ?_
      refine own_callS X9 hx hby hZ (by exact hml) hown (own_w hw 35 rfl) (own_w hw 36 rfl) (own_w hw 37 rfl) (own_w hw 38 rfl) (by decide) e9 2 (by decide) (by decide) (by decide) (by decide) (argsL := [(.int z6)]) (rest := [(.long (0 : Int64))]) (lenOf pd__Z_I rfl) rfl (rmB l Z a0 hw z6 T8.heap) (Nat.le_of_eq rfl) at_143 (pc' := 146) rfl ?_
      intro v10 T10 L10 X10 hQ10
      obtain ⟨rfl, rfl, e10⟩ := hQ10
      rw [List.append_nil] at X10
      replace e10 : T10.heap = T8.heap := e10
      show GoP p e below Φ (T10.setTop (mkF m 146 #[.val (.int p1), .val (.int p2), .val (.int p3), .val (.int p4), .val (.int (1 : Int32)), .val (.int z5), .val (.int z6), .val (.int z7), .val (.int z8), .val (.int z9), .val (.int z10), .val (.ref b6), .val (.long ((0 : Int64) + ((own_bit z5).toInt64))), .second, .val (.long (0 : Int64)), .second] [(.int (own_bit z6)), (.long (0 : Int64))]))
      refine own_i2l X10 hx hby at_146 (pc' := 147) rfl ?_
      refine own_ladd X10 hx hby at_147 (pc' := 148) rfl ?_
      refine own_lstore X10 hx hby at_148  (Ls' := #[.val (.int p1), .val (.int p2), .val (.int p3), .val (.int p4), .val (.int (1 : Int32)), .val (.int z5), .val (.int z6), .val (.int z7), .val (.int z8), .val (.int z9), .val (.int z10), .val (.ref b6), .val (.long ((0 : Int64) + ((own_bit z5).toInt64))), .second, .val (.long ((0 : Int64) + ((own_bit z6).toInt64))), .second]) rfl (pc' := 150) rfl ?_
      refine own_iload X10 hx hby at_150 rfl (pc' := 152) rfl ?_
      refine own_iconst X10 hx hby at_152 (v := (2 : Int32)) rfl (pc' := 153) rfl ?_
      refine own_icmpY X10 hx hby at_153 (tlt (by decide)).1 (by decide) (pc' := 187) (by decide) ?_
      refine own_iload X10 hx hby at_187 rfl (pc' := 189) rfl ?_
      refine own_iconst X10 hx hby at_189 (v := (3 : Int32)) rfl (pc' := 190) rfl ?_
      refine own_icmpY X10 hx hby at_190 (tlt (by decide)).1 (by decide) (pc' := 224) (by decide) ?_
      refine own_aload X10 hx hby at_224 rfl rfl (pc' := 226) rfl ?_
      refine own_callV X10 hx hby hZ (by exact hml) hown (own_w hw 9 rfl) (own_w hw 10 rfl) (own_w hw 12 rfl) (own_w hw 11 rfl) (own_w hw 2 rfl) (own_w hw 13 rfl) (by decide) e10 0 (by decide) (by decide) (by decide) (by decide) (argsL := []) (rest := []) (lenOf pd___J rfl) rfl (Nat.le_of_eq rfl) E8 (rm_queries l Z a0 hw b6 ((0 : Int64) + (1 : Int64)) T8.heap FQ8) at_226 (pc' := 229) rfl ?_
      intro v11 T11 L11 X11 hQ11
      obtain ⟨rfl, rfl, e11⟩ := hQ11
      rw [List.append_nil] at X11
      replace e11 : T11.heap = T8.heap := e11
      show GoP p e below Φ (T11.setTop (mkF m 229 #[.val (.int p1), .val (.int p2), .val (.int p3), .val (.int p4), .val (.int (1 : Int32)), .val (.int z5), .val (.int z6), .val (.int z7), .val (.int z8), .val (.int z9), .val (.int z10), .val (.ref b6), .val (.long ((0 : Int64) + ((own_bit z5).toInt64))), .second, .val (.long ((0 : Int64) + ((own_bit z6).toInt64))), .second] [(.long ((0 : Int64) + (1 : Int64)))]))
      refine own_iload X11 hx hby at_229 rfl (pc' := 231) rfl ?_
      refine own_i2l X11 hx hby at_231 (pc' := 232) rfl ?_
      refine own_lcmp X11 hx hby at_232 (pc' := 233) rfl ?_
      refine own_ifN X11 hx hby at_233 ((if0 _ _).trans (teq ((lw_eq _ _).mpr (by decide))).2) (pc' := 236) rfl ?_
      refine own_aload X11 hx hby at_236 rfl rfl (pc' := 238) rfl ?_
      refine own_callV X11 hx hby hZ (by exact hml) hown (own_w hw 16 rfl) (own_w hw 17 rfl) (own_w hw 19 rfl) (own_w hw 18 rfl) (own_w hw 2 rfl) (own_w hw 20 rfl) (by decide) e11 0 (by decide) (by decide) (by decide) (by decide) (argsL := []) (rest := []) (lenOf pd___J rfl) rfl (Nat.le_of_eq rfl) E8 (rm_met l Z a0 hw b6 ((0 : Int64) + (own_bit z5).toInt64) T8.heap FM8) at_238 (pc' := 241) rfl ?_
      intro v12 T12 L12 X12 hQ12
      obtain ⟨rfl, rfl, e12⟩ := hQ12
      rw [List.append_nil] at X12
      replace e12 : T12.heap = T8.heap := e12
      show GoP p e below Φ (T12.setTop (mkF m 241 #[.val (.int p1), .val (.int p2), .val (.int p3), .val (.int p4), .val (.int (1 : Int32)), .val (.int z5), .val (.int z6), .val (.int z7), .val (.int z8), .val (.int z9), .val (.int z10), .val (.ref b6), .val (.long ((0 : Int64) + ((own_bit z5).toInt64))), .second, .val (.long ((0 : Int64) + ((own_bit z6).toInt64))), .second] [(.long ((0 : Int64) + (own_bit z5).toInt64))]))
      refine own_lload X12 hx hby at_241 rfl (pc' := 243) rfl ?_
      refine own_lcmp X12 hx hby at_243 (pc' := 244) rfl ?_
      refine own_ifN X12 hx hby at_244 ((if0 _ _).trans (teq ((lw_eq _ _).mpr rfl)).2) (pc' := 247) rfl ?_
      refine own_aload X12 hx hby at_247 rfl rfl (pc' := 249) rfl ?_
      refine own_callV X12 hx hby hZ (by exact hml) hown (own_w hw 23 rfl) (own_w hw 24 rfl) (own_w hw 26 rfl) (own_w hw 25 rfl) (own_w hw 2 rfl) (own_w hw 27 rfl) (by decide) e12 0 (by decide) (by decide) (by decide) (by decide) (argsL := []) (rest := []) (lenOf pd___J rfl) rfl (Nat.le_of_eq rfl) E8 (rm_metStrictly l Z a0 hw b6 ((0 : Int64) + (own_bit z6).toInt64) T8.heap FT8) at_249 (pc' := 252) rfl ?_
      intro v13 T13 L13 X13 hQ13
      obtain ⟨rfl, rfl, e13⟩ := hQ13
      rw [List.append_nil] at X13
      replace e13 : T13.heap = T8.heap := e13
      show GoP p e below Φ (T13.setTop (mkF m 252 #[.val (.int p1), .val (.int p2), .val (.int p3), .val (.int p4), .val (.int (1 : Int32)), .val (.int z5), .val (.int z6), .val (.int z7), .val (.int z8), .val (.int z9), .val (.int z10), .val (.ref b6), .val (.long ((0 : Int64) + ((own_bit z5).toInt64))), .second, .val (.long ((0 : Int64) + ((own_bit z6).toInt64))), .second] [(.long ((0 : Int64) + (own_bit z6).toInt64))]))
      refine own_lload X13 hx hby at_252 rfl (pc' := 254) rfl ?_
      refine own_lcmp X13 hx hby at_254 (pc' := 255) rfl ?_
      refine own_ifN X13 hx hby at_255 ((if0 _ _).trans (teq ((lw_eq _ _).mpr rfl)).2) (pc' := 258) rfl ?_
      refine own_iconst X13 hx hby at_258 (v := (1 : Int32)) rfl (pc' := 259) rfl ?_
      refine own_goto X13 hx hby at_259 (by decide) (pc' := 263) (by decide) ?_
      exact own_retN X13 hx hby fin hret (by simp) rfl at_263 (by decide) (by decide) ⟨rfl, N8⟩
    · rw [q4]
      obtain ⟨T14, h14, X14, e14, E14, A14, D14, -, st14⟩ := newO X hx hZ hown (own_w hw 0 rfl) (own_w hw 1 rfl) (own_w hw 2 rfl) eT (g := (mkF m 98 #[.val (.int p1), .val (.int p2), .val (.int p3), .val (.int p4), .val (.int (2 : Int32)), .val (.int z5), .val (.int z6), .val (.int z7), .val (.int z8), .val (.int z9), .val (.int z10), .unset, .unset, .unset, .unset, .unset] [])) rfl (hb hby at_98) (by decide) (by decide)
      obtain ⟨b14, g14⟩ : ∃ z, z = h0.size := ⟨_, rfl⟩
      have Z14 : n0 ≤ h14.size := Nat.le_trans Z0 E14.1
      have n0_b14 : n0 ≤ b14 := g14 ▸ Z0
      rw [← g14] at A14 D14 st14
      refine own_step st14 ?_
      have F14_queries : Fld Z h14 b14 "com/example/collectary/collectary/broker/Criterion" "queries" "J" (.long (0 : Int64)) := D14 (Or.inl (own_w hw 15 rfl)) (ty := .long) (by decide)
      have F14_met : Fld Z h14 b14 "com/example/collectary/collectary/broker/Criterion" "met" "J" (.long (0 : Int64)) := D14 (Or.inl (own_w hw 22 rfl)) (ty := .long) (by decide)
      have F14_metStrictly : Fld Z h14 b14 "com/example/collectary/collectary/broker/Criterion" "metStrictly" "J" (.long (0 : Int64)) := D14 (Or.inl (own_w hw 29 rfl)) (ty := .long) (by decide)
      show GoP p e below Φ (T14.setTop (mkF m 101 #[.val (.int p1), .val (.int p2), .val (.int p3), .val (.int p4), .val (.int (2 : Int32)), .val (.int z5), .val (.int z6), .val (.int z7), .val (.int z8), .val (.int z9), .val (.int z10), .unset, .unset, .unset, .unset, .unset] [(.ref b14)]))
      refine own_dup X14 hx hby at_101 rfl (pc' := 102) rfl ?_
      refine own_callI X14 hx hby hZ (by exact hml) hown rfl (own_w hw 3 rfl) (own_w hw 4 rfl) (own_w hw 2 rfl) (own_w hw 5 rfl) (by decide) e14 1 (by decide) (by decide) (by decide) (by decide) (argsL := []) (rest := [(.ref b14)]) (lenOf pd___V rfl) rfl (Nat.le_of_eq rfl) (rmI l Z a0 hw b14 h14) at_102 (pc' := 105) rfl ?_
      intro v15 T15 L15 X15 hQ15
      obtain ⟨rfl, rfl, e15⟩ := hQ15
      rw [List.append_nil] at X15
      replace e15 : T15.heap = h14 := e15
      show GoP p e below Φ (T15.setTop (mkF m 105 #[.val (.int p1), .val (.int p2), .val (.int p3), .val (.int p4), .val (.int (2 : Int32)), .val (.int z5), .val (.int z6), .val (.int z7), .val (.int z8), .val (.int z9), .val (.int z10), .unset, .unset, .unset, .unset, .unset] [(.ref b14)]))
      refine own_astore X15 hx hby at_105 rfl (Ls' := #[.val (.int p1), .val (.int p2), .val (.int p3), .val (.int p4), .val (.int (2 : Int32)), .val (.int z5), .val (.int z6), .val (.int z7), .val (.int z8), .val (.int z9), .val (.int z10), .val (.ref b14), .unset, .unset, .unset, .unset]) rfl (pc' := 107) rfl ?_
      refine own_lconst X15 hx hby at_107 (v := (0 : Int64)) rfl (pc' := 108) rfl ?_
      refine own_lstore X15 hx hby at_108  (Ls' := #[.val (.int p1), .val (.int p2), .val (.int p3), .val (.int p4), .val (.int (2 : Int32)), .val (.int z5), .val (.int z6), .val (.int z7), .val (.int z8), .val (.int z9), .val (.int z10), .val (.ref b14), .val (.long (0 : Int64)), .second, .unset, .unset]) rfl (pc' := 110) rfl ?_
      refine own_lconst X15 hx hby at_110 (v := (0 : Int64)) rfl (pc' := 111) rfl ?_
      refine own_lstore X15 hx hby at_111  (Ls' := #[.val (.int p1), .val (.int p2), .val (.int p3), .val (.int p4), .val (.int (2 : Int32)), .val (.int z5), .val (.int z6), .val (.int z7), .val (.int z8), .val (.int z9), .val (.int z10), .val (.ref b14), .val (.long (0 : Int64)), .second, .val (.long (0 : Int64)), .second]) rfl (pc' := 113) rfl ?_
      refine own_iload X15 hx hby at_113 rfl (pc' := 115) rfl ?_
      refine own_iconst X15 hx hby at_115 (v := (1 : Int32)) rfl (pc' := 116) rfl ?_
      refine own_icmpN X15 hx hby at_116 (flt (by decide)).1 (pc' := 119) rfl ?_
      refine own_aload X15 hx hby at_119 rfl rfl (pc' := 121) rfl ?_
      refine own_iload X15 hx hby at_121 rfl (pc' := 123) rfl ?_
      refine own_iload X15 hx hby at_123 rfl (pc' := 125) rfl ?_
      refine own_callV X15 hx hby hZ (by exact hml) hown (own_w hw 30 rfl) (own_w hw 31 rfl) (own_w hw 33 rfl) (own_w hw 32 rfl) (own_w hw 2 rfl) (own_w hw 34 rfl) (by decide) e15 0 (by decide) (by decide) (by decide) (by decide) (argsL := [(.int z5), (.int z6)]) (rest := []) (lenOf pd__ZZ_V rfl) rfl (Nat.le_of_eq rfl) A14 (rmA l Z a0 hw b14 z5 z6 (0 : Int64) (0 : Int64) (0 : Int64) n0 h14 n0_b14 A14 F14_queries F14_met F14_metStrictly) at_125 (pc' := 128) rfl ?_
      intro v16 T16 L16 X16 hQ16
      obtain ⟨rfl, Nq16, K16, E16, FQ16, FM16, FT16⟩ := hQ16
      have N16 := Fr.app N0 Nq16
      have Z16 : n0 ≤ T16.heap.size := Nat.le_trans Z14 K16.1
      show GoP p e below Φ (T16.setTop (mkF m 128 #[.val (.int p1), .val (.int p2), .val (.int p3), .val (.int p4), .val (.int (2 : Int32)), .val (.int z5), .val (.int z6), .val (.int z7), .val (.int z8), .val (.int z9), .val (.int z10), .val (.ref b14), .val (.long (0 : Int64)), .second, .val (.long (0 : Int64)), .second] []))
      refine own_lload X16 hx hby at_128 rfl (pc' := 130) rfl ?_
      refine own_iload X16 hx hby at_130 rfl (pc' := 132) rfl ?_
      refine own_callS X16 hx hby hZ (by exact hml) hown (own_w hw 35 rfl) (own_w hw 36 rfl) (own_w hw 37 rfl) (own_w hw 38 rfl) (by decide) rfl 2 (by decide) (by decide) (by decide) (by decide) (argsL := [(.int z5)]) (rest := [(.long (0 : Int64))]) (lenOf pd__Z_I rfl) rfl (rmB l Z a0 hw z5 T16.heap) (Nat.le_of_eq rfl) at_132 (pc' := 135) rfl ?_
      intro v17 T17 L17 X17 hQ17
      obtain ⟨rfl, rfl, e17⟩ := hQ17
      rw [List.append_nil] at X17
      replace e17 : T17.heap = T16.heap := e17
      show GoP p e below Φ (T17.setTop (mkF m 135 #[.val (.int p1), .val (.int p2), .val (.int p3), .val (.int p4), .val (.int (2 : Int32)), .val (.int z5), .val (.int z6), .val (.int z7), .val (.int z8), .val (.int z9), .val (.int z10), .val (.ref b14), .val (.long (0 : Int64)), .second, .val (.long (0 : Int64)), .second] [(.int (own_bit z5)), (.long (0 : Int64))]))
      refine own_i2l X17 hx hby at_135 (pc' := 136) rfl ?_
      refine own_ladd X17 hx hby at_136 (pc' := 137) rfl ?_
      refine own_lstore X17 hx hby at_137  (Ls' := #[.val (.int p1), .val (.int p2), .val (.int p3), .val (.int p4), .val (.int (2 : Int32)), .val (.int z5), .val (.int z6), .val (.int z7), .val (.int z8), .val (.int z9), .val (.int z10), .val (.ref b14), .val (.long ((0 : Int64) + ((own_bit z5).toInt64))), .second, .val (.long (0 : Int64)), .second]) rfl (pc' := 139) rfl ?_
      refine own_lload X17 hx hby at_139 rfl (pc' := 141) rfl ?_
      refine own_iload X17 hx hby at_141 rfl (pc' := 143) rfl ?_
      refine own_callS X17 hx hby hZ (by exact hml) hown (own_w hw 35 rfl) (own_w hw 36 rfl) (own_w hw 37 rfl) (own_w hw 38 rfl) (by decide) e17 2 (by decide) (by decide) (by decide) (by decide) (argsL := [(.int z6)]) (rest := [(.long (0 : Int64))]) (lenOf pd__Z_I rfl) rfl (rmB l Z a0 hw z6 T16.heap) (Nat.le_of_eq rfl) at_143 (pc' := 146) rfl ?_
      intro v18 T18 L18 X18 hQ18
      obtain ⟨rfl, rfl, e18⟩ := hQ18
      rw [List.append_nil] at X18
      replace e18 : T18.heap = T16.heap := e18
      show GoP p e below Φ (T18.setTop (mkF m 146 #[.val (.int p1), .val (.int p2), .val (.int p3), .val (.int p4), .val (.int (2 : Int32)), .val (.int z5), .val (.int z6), .val (.int z7), .val (.int z8), .val (.int z9), .val (.int z10), .val (.ref b14), .val (.long ((0 : Int64) + ((own_bit z5).toInt64))), .second, .val (.long (0 : Int64)), .second] [(.int (own_bit z6)), (.long (0 : Int64))]))
      refine own_i2l X18 hx hby at_146 (pc' := 147) rfl ?_
      refine own_ladd X18 hx hby at_147 (pc' := 148) rfl ?_
      refine own_lstore X18 hx hby at_148  (Ls' := #[.val (.int p1), .val (.int p2), .val (.int p3), .val (.int p4), .val (.int (2 : Int32)), .val (.int z5), .val (.int z6), .val (.int z7), .val (.int z8), .val (.int z9), .val (.int z10), .val (.ref b14), .val (.long ((0 : Int64) + ((own_bit z5).toInt64))), .second, .val (.long ((0 : Int64) + ((own_bit z6).toInt64))), .second]) rfl (pc' := 150) rfl ?_
      refine own_iload X18 hx hby at_150 rfl (pc' := 152) rfl ?_
      refine own_iconst X18 hx hby at_152 (v := (2 : Int32)) rfl (pc' := 153) rfl ?_
      refine own_icmpN X18 hx hby at_153 (flt (by decide)).1 (pc' := 156) rfl ?_
      refine own_aload X18 hx hby at_156 rfl rfl (pc' := 158) rfl ?_
      refine own_iload X18 hx hby at_158 rfl (pc' := 160) rfl ?_
      refine own_iload X18 hx hby at_160 rfl (pc' := 162) rfl ?_
      refine own_callV X18 hx hby hZ (by exact hml) hown (own_w hw 30 rfl) (own_w hw 31 rfl) (own_w hw 33 rfl) (own_w hw 32 rfl) (own_w hw 2 rfl) (own_w hw 34 rfl) (by decide) e18 0 (by decide) (by decide) (by decide) (by decide) (argsL := [(.int z7), (.int z8)]) (rest := []) (lenOf pd__ZZ_V rfl) rfl (Nat.le_of_eq rfl) E16 (rmA l Z a0 hw b14 z7 z8 ((0 : Int64) + (1 : Int64)) ((0 : Int64) + (own_bit z5).toInt64) ((0 : Int64) + (own_bit z6).toInt64) n0 T16.heap n0_b14 E16 FQ16 FM16 FT16) at_162 (pc' := 165) rfl ?_
      intro v19 T19 L19 X19 hQ19
      obtain ⟨rfl, Nq19, K19, E19, FQ19, FM19, FT19⟩ := hQ19
      have N19 := Fr.app N16 Nq19
      have Z19 : n0 ≤ T19.heap.size := Nat.le_trans Z16 K19.1
      show GoP p e below Φ (T19.setTop (mkF m 165 #[.val (.int p1), .val (.int p2), .val (.int p3), .val (.int p4), .val (.int (2 : Int32)), .val (.int z5), .val (.int z6), .val (.int z7), .val (.int z8), .val (.int z9), .val (.int z10), .val (.ref b14), .val (.long ((0 : Int64) + ((own_bit z5).toInt64))), .second, .val (.long ((0 : Int64) + ((own_bit z6).toInt64))), .second] []))
      refine own_lload X19 hx hby at_165 rfl (pc' := 167) rfl ?_
      refine own_iload X19 hx hby at_167 rfl (pc' := 169) rfl ?_
      refine own_callS X19 hx hby hZ (by exact hml) hown (own_w hw 35 rfl) (own_w hw 36 rfl) (own_w hw 37 rfl) (own_w hw 38 rfl) (by decide) rfl 2 (by decide) (by decide) (by decide) (by decide) (argsL := [(.int z7)]) (rest := [(.long ((0 : Int64) + ((own_bit z5).toInt64)))]) (lenOf pd__Z_I rfl) rfl (rmB l Z a0 hw z7 T19.heap) (Nat.le_of_eq rfl) at_169 (pc' := 172) rfl ?_
      intro v20 T20 L20 X20 hQ20
      obtain ⟨rfl, rfl, e20⟩ := hQ20
      rw [List.append_nil] at X20
      replace e20 : T20.heap = T19.heap := e20
      show GoP p e below Φ (T20.setTop (mkF m 172 #[.val (.int p1), .val (.int p2), .val (.int p3), .val (.int p4), .val (.int (2 : Int32)), .val (.int z5), .val (.int z6), .val (.int z7), .val (.int z8), .val (.int z9), .val (.int z10), .val (.ref b14), .val (.long ((0 : Int64) + ((own_bit z5).toInt64))), .second, .val (.long ((0 : Int64) + ((own_bit z6).toInt64))), .second] [(.int (own_bit z7)), (.long ((0 : Int64) + ((own_bit z5).toInt64)))]))
      refine own_i2l X20 hx hby at_172 (pc' := 173) rfl ?_
      refine own_ladd X20 hx hby at_173 (pc' := 174) rfl ?_
      refine own_lstore X20 hx hby at_174  (Ls' := #[.val (.int p1), .val (.int p2), .val (.int p3), .val (.int p4), .val (.int (2 : Int32)), .val (.int z5), .val (.int z6), .val (.int z7), .val (.int z8), .val (.int z9), .val (.int z10), .val (.ref b14), .val (.long (((0 : Int64) + ((own_bit z5).toInt64)) + ((own_bit z7).toInt64))), .second, .val (.long ((0 : Int64) + ((own_bit z6).toInt64))), .second]) rfl (pc' := 176) rfl ?_
      refine own_lload X20 hx hby at_176 rfl (pc' := 178) rfl ?_
      refine own_iload X20 hx hby at_178 rfl (pc' := 180) rfl ?_
      refine own_callS X20 hx hby hZ (by exact hml) hown (own_w hw 35 rfl) (own_w hw 36 rfl) (own_w hw 37 rfl) (own_w hw 38 rfl) (by decide) e20 2 (by decide) (by decide) (by decide) (by decide) (argsL := [(.int z8)]) (rest := [(.long ((0 : Int64) + ((own_bit z6).toInt64)))]) (lenOf pd__Z_I rfl) rfl (rmB l Z a0 hw z8 T19.heap) (Nat.le_of_eq rfl) at_180 (pc' := 183) rfl ?_
      intro v21 T21 L21 X21 hQ21
      obtain ⟨rfl, rfl, e21⟩ := hQ21
      rw [List.append_nil] at X21
      replace e21 : T21.heap = T19.heap := e21
      show GoP p e below Φ (T21.setTop (mkF m 183 #[.val (.int p1), .val (.int p2), .val (.int p3), .val (.int p4), .val (.int (2 : Int32)), .val (.int z5), .val (.int z6), .val (.int z7), .val (.int z8), .val (.int z9), .val (.int z10), .val (.ref b14), .val (.long (((0 : Int64) + ((own_bit z5).toInt64)) + ((own_bit z7).toInt64))), .second, .val (.long ((0 : Int64) + ((own_bit z6).toInt64))), .second] [(.int (own_bit z8)), (.long ((0 : Int64) + ((own_bit z6).toInt64)))]))
      refine own_i2l X21 hx hby at_183 (pc' := 184) rfl ?_
      refine own_ladd X21 hx hby at_184 (pc' := 185) rfl ?_
      refine own_lstore X21 hx hby at_185  (Ls' := #[.val (.int p1), .val (.int p2), .val (.int p3), .val (.int p4), .val (.int (2 : Int32)), .val (.int z5), .val (.int z6), .val (.int z7), .val (.int z8), .val (.int z9), .val (.int z10), .val (.ref b14), .val (.long (((0 : Int64) + ((own_bit z5).toInt64)) + ((own_bit z7).toInt64))), .second, .val (.long (((0 : Int64) + ((own_bit z6).toInt64)) + ((own_bit z8).toInt64))), .second]) rfl (pc' := 187) rfl ?_
      refine own_iload X21 hx hby at_187 rfl (pc' := 189) rfl ?_
      refine own_iconst X21 hx hby at_189 (v := (3 : Int32)) rfl (pc' := 190) rfl ?_
      refine own_icmpY X21 hx hby at_190 (tlt (by decide)).1 (by decide) (pc' := 224) (by decide) ?_
      refine own_aload X21 hx hby at_224 rfl rfl (pc' := 226) rfl ?_
      refine own_callV X21 hx hby hZ (by exact hml) hown (own_w hw 9 rfl) (own_w hw 10 rfl) (own_w hw 12 rfl) (own_w hw 11 rfl) (own_w hw 2 rfl) (own_w hw 13 rfl) (by decide) e21 0 (by decide) (by decide) (by decide) (by decide) (argsL := []) (rest := []) (lenOf pd___J rfl) rfl (Nat.le_of_eq rfl) E19 (rm_queries l Z a0 hw b14 (((0 : Int64) + (1 : Int64)) + (1 : Int64)) T19.heap FQ19) at_226 (pc' := 229) rfl ?_
      intro v22 T22 L22 X22 hQ22
      obtain ⟨rfl, rfl, e22⟩ := hQ22
      rw [List.append_nil] at X22
      replace e22 : T22.heap = T19.heap := e22
      show GoP p e below Φ (T22.setTop (mkF m 229 #[.val (.int p1), .val (.int p2), .val (.int p3), .val (.int p4), .val (.int (2 : Int32)), .val (.int z5), .val (.int z6), .val (.int z7), .val (.int z8), .val (.int z9), .val (.int z10), .val (.ref b14), .val (.long (((0 : Int64) + ((own_bit z5).toInt64)) + ((own_bit z7).toInt64))), .second, .val (.long (((0 : Int64) + ((own_bit z6).toInt64)) + ((own_bit z8).toInt64))), .second] [(.long (((0 : Int64) + (1 : Int64)) + (1 : Int64)))]))
      refine own_iload X22 hx hby at_229 rfl (pc' := 231) rfl ?_
      refine own_i2l X22 hx hby at_231 (pc' := 232) rfl ?_
      refine own_lcmp X22 hx hby at_232 (pc' := 233) rfl ?_
      refine own_ifN X22 hx hby at_233 ((if0 _ _).trans (teq ((lw_eq _ _).mpr (by decide))).2) (pc' := 236) rfl ?_
      refine own_aload X22 hx hby at_236 rfl rfl (pc' := 238) rfl ?_
      refine own_callV X22 hx hby hZ (by exact hml) hown (own_w hw 16 rfl) (own_w hw 17 rfl) (own_w hw 19 rfl) (own_w hw 18 rfl) (own_w hw 2 rfl) (own_w hw 20 rfl) (by decide) e22 0 (by decide) (by decide) (by decide) (by decide) (argsL := []) (rest := []) (lenOf pd___J rfl) rfl (Nat.le_of_eq rfl) E19 (rm_met l Z a0 hw b14 (((0 : Int64) + (own_bit z5).toInt64) + (own_bit z7).toInt64) T19.heap FM19) at_238 (pc' := 241) rfl ?_
      intro v23 T23 L23 X23 hQ23
      obtain ⟨rfl, rfl, e23⟩ := hQ23
      rw [List.append_nil] at X23
      replace e23 : T23.heap = T19.heap := e23
      show GoP p e below Φ (T23.setTop (mkF m 241 #[.val (.int p1), .val (.int p2), .val (.int p3), .val (.int p4), .val (.int (2 : Int32)), .val (.int z5), .val (.int z6), .val (.int z7), .val (.int z8), .val (.int z9), .val (.int z10), .val (.ref b14), .val (.long (((0 : Int64) + ((own_bit z5).toInt64)) + ((own_bit z7).toInt64))), .second, .val (.long (((0 : Int64) + ((own_bit z6).toInt64)) + ((own_bit z8).toInt64))), .second] [(.long (((0 : Int64) + (own_bit z5).toInt64) + (own_bit z7).toInt64))]))
      refine own_lload X23 hx hby at_241 rfl (pc' := 243) rfl ?_
      refine own_lcmp X23 hx hby at_243 (pc' := 244) rfl ?_
      refine own_ifN X23 hx hby at_244 ((if0 _ _).trans (teq ((lw_eq _ _).mpr rfl)).2) (pc' := 247) rfl ?_
      refine own_aload X23 hx hby at_247 rfl rfl (pc' := 249) rfl ?_
      refine own_callV X23 hx hby hZ (by exact hml) hown (own_w hw 23 rfl) (own_w hw 24 rfl) (own_w hw 26 rfl) (own_w hw 25 rfl) (own_w hw 2 rfl) (own_w hw 27 rfl) (by decide) e23 0 (by decide) (by decide) (by decide) (by decide) (argsL := []) (rest := []) (lenOf pd___J rfl) rfl (Nat.le_of_eq rfl) E19 (rm_metStrictly l Z a0 hw b14 (((0 : Int64) + (own_bit z6).toInt64) + (own_bit z8).toInt64) T19.heap FT19) at_249 (pc' := 252) rfl ?_
      intro v24 T24 L24 X24 hQ24
      obtain ⟨rfl, rfl, e24⟩ := hQ24
      rw [List.append_nil] at X24
      replace e24 : T24.heap = T19.heap := e24
      show GoP p e below Φ (T24.setTop (mkF m 252 #[.val (.int p1), .val (.int p2), .val (.int p3), .val (.int p4), .val (.int (2 : Int32)), .val (.int z5), .val (.int z6), .val (.int z7), .val (.int z8), .val (.int z9), .val (.int z10), .val (.ref b14), .val (.long (((0 : Int64) + ((own_bit z5).toInt64)) + ((own_bit z7).toInt64))), .second, .val (.long (((0 : Int64) + ((own_bit z6).toInt64)) + ((own_bit z8).toInt64))), .second] [(.long (((0 : Int64) + (own_bit z6).toInt64) + (own_bit z8).toInt64))]))
      refine own_lload X24 hx hby at_252 rfl (pc' := 254) rfl ?_
      refine own_lcmp X24 hx hby at_254 (pc' := 255) rfl ?_
      refine own_ifN X24 hx hby at_255 ((if0 _ _).trans (teq ((lw_eq _ _).mpr rfl)).2) (pc' := 258) rfl ?_
      refine own_iconst X24 hx hby at_258 (v := (1 : Int32)) rfl (pc' := 259) rfl ?_
      refine own_goto X24 hx hby at_259 (by decide) (pc' := 263) (by decide) ?_
      exact own_retN X24 hx hby fin hret (by simp) rfl at_263 (by decide) (by decide) ⟨rfl, N19⟩
    · rw [q4]
      obtain ⟨T25, h25, X25, e25, E25, A25, D25, -, st25⟩ := newO X hx hZ hown (own_w hw 0 rfl) (own_w hw 1 rfl) (own_w hw 2 rfl) eT (g := (mkF m 98 #[.val (.int p1), .val (.int p2), .val (.int p3), .val (.int p4), .val (.int (3 : Int32)), .val (.int z5), .val (.int z6), .val (.int z7), .val (.int z8), .val (.int z9), .val (.int z10), .unset, .unset, .unset, .unset, .unset] [])) rfl (hb hby at_98) (by decide) (by decide)
      obtain ⟨b25, g25⟩ : ∃ z, z = h0.size := ⟨_, rfl⟩
      have Z25 : n0 ≤ h25.size := Nat.le_trans Z0 E25.1
      have n0_b25 : n0 ≤ b25 := g25 ▸ Z0
      rw [← g25] at A25 D25 st25
      refine own_step st25 ?_
      have F25_queries : Fld Z h25 b25 "com/example/collectary/collectary/broker/Criterion" "queries" "J" (.long (0 : Int64)) := D25 (Or.inl (own_w hw 15 rfl)) (ty := .long) (by decide)
      have F25_met : Fld Z h25 b25 "com/example/collectary/collectary/broker/Criterion" "met" "J" (.long (0 : Int64)) := D25 (Or.inl (own_w hw 22 rfl)) (ty := .long) (by decide)
      have F25_metStrictly : Fld Z h25 b25 "com/example/collectary/collectary/broker/Criterion" "metStrictly" "J" (.long (0 : Int64)) := D25 (Or.inl (own_w hw 29 rfl)) (ty := .long) (by decide)
      show GoP p e below Φ (T25.setTop (mkF m 101 #[.val (.int p1), .val (.int p2), .val (.int p3), .val (.int p4), .val (.int (3 : Int32)), .val (.int z5), .val (.int z6), .val (.int z7), .val (.int z8), .val (.int z9), .val (.int z10), .unset, .unset, .unset, .unset, .unset] [(.ref b25)]))
      refine own_dup X25 hx hby at_101 rfl (pc' := 102) rfl ?_
      refine own_callI X25 hx hby hZ (by exact hml) hown rfl (own_w hw 3 rfl) (own_w hw 4 rfl) (own_w hw 2 rfl) (own_w hw 5 rfl) (by decide) e25 1 (by decide) (by decide) (by decide) (by decide) (argsL := []) (rest := [(.ref b25)]) (lenOf pd___V rfl) rfl (Nat.le_of_eq rfl) (rmI l Z a0 hw b25 h25) at_102 (pc' := 105) rfl ?_
      intro v26 T26 L26 X26 hQ26
      obtain ⟨rfl, rfl, e26⟩ := hQ26
      rw [List.append_nil] at X26
      replace e26 : T26.heap = h25 := e26
      show GoP p e below Φ (T26.setTop (mkF m 105 #[.val (.int p1), .val (.int p2), .val (.int p3), .val (.int p4), .val (.int (3 : Int32)), .val (.int z5), .val (.int z6), .val (.int z7), .val (.int z8), .val (.int z9), .val (.int z10), .unset, .unset, .unset, .unset, .unset] [(.ref b25)]))
      refine own_astore X26 hx hby at_105 rfl (Ls' := #[.val (.int p1), .val (.int p2), .val (.int p3), .val (.int p4), .val (.int (3 : Int32)), .val (.int z5), .val (.int z6), .val (.int z7), .val (.int z8), .val (.int z9), .val (.int z10), .val (.ref b25), .unset, .unset, .unset, .unset]) rfl (pc' := 107) rfl ?_
      refine own_lconst X26 hx hby at_107 (v := (0 : Int64)) rfl (pc' := 108) rfl ?_
      refine own_lstore X26 hx hby at_108  (Ls' := #[.val (.int p1), .val (.int p2), .val (.int p3), .val (.int p4), .val (.int (3 : Int32)), .val (.int z5), .val (.int z6), .val (.int z7), .val (.int z8), .val (.int z9), .val (.int z10), .val (.ref b25), .val (.long (0 : Int64)), .second, .unset, .unset]) rfl (pc' := 110) rfl ?_
      refine own_lconst X26 hx hby at_110 (v := (0 : Int64)) rfl (pc' := 111) rfl ?_
      refine own_lstore X26 hx hby at_111  (Ls' := #[.val (.int p1), .val (.int p2), .val (.int p3), .val (.int p4), .val (.int (3 : Int32)), .val (.int z5), .val (.int z6), .val (.int z7), .val (.int z8), .val (.int z9), .val (.int z10), .val (.ref b25), .val (.long (0 : Int64)), .second, .val (.long (0 : Int64)), .second]) rfl (pc' := 113) rfl ?_
      refine own_iload X26 hx hby at_113 rfl (pc' := 115) rfl ?_
      refine own_iconst X26 hx hby at_115 (v := (1 : Int32)) rfl (pc' := 116) rfl ?_
      refine own_icmpN X26 hx hby at_116 (flt (by decide)).1 (pc' := 119) rfl ?_
      refine own_aload X26 hx hby at_119 rfl rfl (pc' := 121) rfl ?_
      refine own_iload X26 hx hby at_121 rfl (pc' := 123) rfl ?_
      refine own_iload X26 hx hby at_123 rfl (pc' := 125) rfl ?_
      refine own_callV X26 hx hby hZ (by exact hml) hown (own_w hw 30 rfl) (own_w hw 31 rfl) (own_w hw 33 rfl) (own_w hw 32 rfl) (own_w hw 2 rfl) (own_w hw 34 rfl) (by decide) e26 0 (by decide) (by decide) (by decide) (by decide) (argsL := [(.int z5), (.int z6)]) (rest := []) (lenOf pd__ZZ_V rfl) rfl (Nat.le_of_eq rfl) A25 (rmA l Z a0 hw b25 z5 z6 (0 : Int64) (0 : Int64) (0 : Int64) n0 h25 n0_b25 A25 F25_queries F25_met F25_metStrictly) at_125 (pc' := 128) rfl ?_
      intro v27 T27 L27 X27 hQ27
      obtain ⟨rfl, Nq27, K27, E27, FQ27, FM27, FT27⟩ := hQ27
      have N27 := Fr.app N0 Nq27
      have Z27 : n0 ≤ T27.heap.size := Nat.le_trans Z25 K27.1
      show GoP p e below Φ (T27.setTop (mkF m 128 #[.val (.int p1), .val (.int p2), .val (.int p3), .val (.int p4), .val (.int (3 : Int32)), .val (.int z5), .val (.int z6), .val (.int z7), .val (.int z8), .val (.int z9), .val (.int z10), .val (.ref b25), .val (.long (0 : Int64)), .second, .val (.long (0 : Int64)), .second] []))
      refine own_lload X27 hx hby at_128 rfl (pc' := 130) rfl ?_
      refine own_iload X27 hx hby at_130 rfl (pc' := 132) rfl ?_
      refine own_callS X27 hx hby hZ (by exact hml) hown (own_w hw 35 rfl) (own_w hw 36 rfl) (own_w hw 37 rfl) (own_w hw 38 rfl) (by decide) rfl 2 (by decide) (by decide) (by decide) (by decide) (argsL := [(.int z5)]) (rest := [(.long (0 : Int64))]) (lenOf pd__Z_I rfl) rfl (rmB l Z a0 hw z5 T27.heap) (Nat.le_of_eq rfl) at_132 (pc' := 135) rfl ?_
      intro v28 T28 L28 X28 hQ28
      obtain ⟨rfl, rfl, e28⟩ := hQ28
      rw [List.append_nil] at X28
      replace e28 : T28.heap = T27.heap := e28
      show GoP p e below Φ (T28.setTop (mkF m 135 #[.val (.int p1), .val (.int p2), .val (.int p3), .val (.int p4), .val (.int (3 : Int32)), .val (.int z5), .val (.int z6), .val (.int z7), .val (.int z8), .val (.int z9), .val (.int z10), .val (.ref b25), .val (.long (0 : Int64)), .second, .val (.long (0 : Int64)), .second] [(.int (own_bit z5)), (.long (0 : Int64))]))
      refine own_i2l X28 hx hby at_135 (pc' := 136) rfl ?_
      refine own_ladd X28 hx hby at_136 (pc' := 137) rfl ?_
      refine own_lstore X28 hx hby at_137  (Ls' := #[.val (.int p1), .val (.int p2), .val (.int p3), .val (.int p4), .val (.int (3 : Int32)), .val (.int z5), .val (.int z6), .val (.int z7), .val (.int z8), .val (.int z9), .val (.int z10), .val (.ref b25), .val (.long ((0 : Int64) + ((own_bit z5).toInt64))), .second, .val (.long (0 : Int64)), .second]) rfl (pc' := 139) rfl ?_
      refine own_lload X28 hx hby at_139 rfl (pc' := 141) rfl ?_
      refine own_iload X28 hx hby at_141 rfl (pc' := 143) rfl ?_
      refine own_callS X28 hx hby hZ (by exact hml) hown (own_w hw 35 rfl) (own_w hw 36 rfl) (own_w hw 37 rfl) (own_w hw 38 rfl) (by decide) e28 2 (by decide) (by decide) (by decide) (by decide) (argsL := [(.int z6)]) (rest := [(.long (0 : Int64))]) (lenOf pd__Z_I rfl) rfl (rmB l Z a0 hw z6 T27.heap) (Nat.le_of_eq rfl) at_143 (pc' := 146) rfl ?_
      intro v29 T29 L29 X29 hQ29
      obtain ⟨rfl, rfl, e29⟩ := hQ29
      rw [List.append_nil] at X29
      replace e29 : T29.heap = T27.heap := e29
      show GoP p e below Φ (T29.setTop (mkF m 146 #[.val (.int p1), .val (.int p2), .val (.int p3), .val (.int p4), .val (.int (3 : Int32)), .val (.int z5), .val (.int z6), .val (.int z7), .val (.int z8), .val (.int z9), .val (.int z10), .val (.ref b25), .val (.long ((0 : Int64) + ((own_bit z5).toInt64))), .second, .val (.long (0 : Int64)), .second] [(.int (own_bit z6)), (.long (0 : Int64))]))
      refine own_i2l X29 hx hby at_146 (pc' := 147) rfl ?_
      refine own_ladd X29 hx hby at_147 (pc' := 148) rfl ?_
      refine own_lstore X29 hx hby at_148  (Ls' := #[.val (.int p1), .val (.int p2), .val (.int p3), .val (.int p4), .val (.int (3 : Int32)), .val (.int z5), .val (.int z6), .val (.int z7), .val (.int z8), .val (.int z9), .val (.int z10), .val (.ref b25), .val (.long ((0 : Int64) + ((own_bit z5).toInt64))), .second, .val (.long ((0 : Int64) + ((own_bit z6).toInt64))), .second]) rfl (pc' := 150) rfl ?_
      refine own_iload X29 hx hby at_150 rfl (pc' := 152) rfl ?_
      refine own_iconst X29 hx hby at_152 (v := (2 : Int32)) rfl (pc' := 153) rfl ?_
      refine own_icmpN X29 hx hby at_153 (flt (by decide)).1 (pc' := 156) rfl ?_
      refine own_aload X29 hx hby at_156 rfl rfl (pc' := 158) rfl ?_
      refine own_iload X29 hx hby at_158 rfl (pc' := 160) rfl ?_
      refine own_iload X29 hx hby at_160 rfl (pc' := 162) rfl ?_
      refine own_callV X29 hx hby hZ (by exact hml) hown (own_w hw 30 rfl) (own_w hw 31 rfl) (own_w hw 33 rfl) (own_w hw 32 rfl) (own_w hw 2 rfl) (own_w hw 34 rfl) (by decide) e29 0 (by decide) (by decide) (by decide) (by decide) (argsL := [(.int z7), (.int z8)]) (rest := []) (lenOf pd__ZZ_V rfl) rfl (Nat.le_of_eq rfl) E27 (rmA l Z a0 hw b25 z7 z8 ((0 : Int64) + (1 : Int64)) ((0 : Int64) + (own_bit z5).toInt64) ((0 : Int64) + (own_bit z6).toInt64) n0 T27.heap n0_b25 E27 FQ27 FM27 FT27) at_162 (pc' := 165) rfl ?_
      intro v30 T30 L30 X30 hQ30
      obtain ⟨rfl, Nq30, K30, E30, FQ30, FM30, FT30⟩ := hQ30
      have N30 := Fr.app N27 Nq30
      have Z30 : n0 ≤ T30.heap.size := Nat.le_trans Z27 K30.1
      show GoP p e below Φ (T30.setTop (mkF m 165 #[.val (.int p1), .val (.int p2), .val (.int p3), .val (.int p4), .val (.int (3 : Int32)), .val (.int z5), .val (.int z6), .val (.int z7), .val (.int z8), .val (.int z9), .val (.int z10), .val (.ref b25), .val (.long ((0 : Int64) + ((own_bit z5).toInt64))), .second, .val (.long ((0 : Int64) + ((own_bit z6).toInt64))), .second] []))
      refine own_lload X30 hx hby at_165 rfl (pc' := 167) rfl ?_
      refine own_iload X30 hx hby at_167 rfl (pc' := 169) rfl ?_
      refine own_callS X30 hx hby hZ (by exact hml) hown (own_w hw 35 rfl) (own_w hw 36 rfl) (own_w hw 37 rfl) (own_w hw 38 rfl) (by decide) rfl 2 (by decide) (by decide) (by decide) (by decide) (argsL := [(.int z7)]) (rest := [(.long ((0 : Int64) + ((own_bit z5).toInt64)))]) (lenOf pd__Z_I rfl) rfl (rmB l Z a0 hw z7 T30.heap) (Nat.le_of_eq rfl) at_169 (pc' := 172) rfl ?_
      intro v31 T31 L31 X31 hQ31
      obtain ⟨rfl, rfl, e31⟩ := hQ31
      rw [List.append_nil] at X31
      replace e31 : T31.heap = T30.heap := e31
      show GoP p e below Φ (T31.setTop (mkF m 172 #[.val (.int p1), .val (.int p2), .val (.int p3), .val (.int p4), .val (.int (3 : Int32)), .val (.int z5), .val (.int z6), .val (.int z7), .val (.int z8), .val (.int z9), .val (.int z10), .val (.ref b25), .val (.long ((0 : Int64) + ((own_bit z5).toInt64))), .second, .val (.long ((0 : Int64) + ((own_bit z6).toInt64))), .second] [(.int (own_bit z7)), (.long ((0 : Int64) + ((own_bit z5).toInt64)))]))
      refine own_i2l X31 hx hby at_172 (pc' := 173) rfl ?_
      refine own_ladd X31 hx hby at_173 (pc' := 174) rfl ?_
      refine own_lstore X31 hx hby at_174  (Ls' := #[.val (.int p1), .val (.int p2), .val (.int p3), .val (.int p4), .val (.int (3 : Int32)), .val (.int z5), .val (.int z6), .val (.int z7), .val (.int z8), .val (.int z9), .val (.int z10), .val (.ref b25), .val (.long (((0 : Int64) + ((own_bit z5).toInt64)) + ((own_bit z7).toInt64))), .second, .val (.long ((0 : Int64) + ((own_bit z6).toInt64))), .second]) rfl (pc' := 176) rfl ?_
      refine own_lload X31 hx hby at_176 rfl (pc' := 178) rfl ?_
      refine own_iload X31 hx hby at_178 rfl (pc' := 180) rfl ?_
      refine own_callS X31 hx hby hZ (by exact hml) hown (own_w hw 35 rfl) (own_w hw 36 rfl) (own_w hw 37 rfl) (own_w hw 38 rfl) (by decide) e31 2 (by decide) (by decide) (by decide) (by decide) (argsL := [(.int z8)]) (rest := [(.long ((0 : Int64) + ((own_bit z6).toInt64)))]) (lenOf pd__Z_I rfl) rfl (rmB l Z a0 hw z8 T30.heap) (Nat.le_of_eq rfl) at_180 (pc' := 183) rfl ?_
      intro v32 T32 L32 X32 hQ32
      obtain ⟨rfl, rfl, e32⟩ := hQ32
      rw [List.append_nil] at X32
      replace e32 : T32.heap = T30.heap := e32
      show GoP p e below Φ (T32.setTop (mkF m 183 #[.val (.int p1), .val (.int p2), .val (.int p3), .val (.int p4), .val (.int (3 : Int32)), .val (.int z5), .val (.int z6), .val (.int z7), .val (.int z8), .val (.int z9), .val (.int z10), .val (.ref b25), .val (.long (((0 : Int64) + ((own_bit z5).toInt64)) + ((own_bit z7).toInt64))), .second, .val (.long ((0 : Int64) + ((own_bit z6).toInt64))), .second] [(.int (own_bit z8)), (.long ((0 : Int64) + ((own_bit z6).toInt64)))]))
      refine own_i2l X32 hx hby at_183 (pc' := 184) rfl ?_
      refine own_ladd X32 hx hby at_184 (pc' := 185) rfl ?_
      refine own_lstore X32 hx hby at_185  (Ls' := #[.val (.int p1), .val (.int p2), .val (.int p3), .val (.int p4), .val (.int (3 : Int32)), .val (.int z5), .val (.int z6), .val (.int z7), .val (.int z8), .val (.int z9), .val (.int z10), .val (.ref b25), .val (.long (((0 : Int64) + ((own_bit z5).toInt64)) + ((own_bit z7).toInt64))), .second, .val (.long (((0 : Int64) + ((own_bit z6).toInt64)) + ((own_bit z8).toInt64))), .second]) rfl (pc' := 187) rfl ?_
      refine own_iload X32 hx hby at_187 rfl (pc' := 189) rfl ?_
      refine own_iconst X32 hx hby at_189 (v := (3 : Int32)) rfl (pc' := 190) rfl ?_
      refine own_icmpN X32 hx hby at_190 (flt (by decide)).1 (pc' := 193) rfl ?_
      refine own_aload X32 hx hby at_193 rfl rfl (pc' := 195) rfl ?_
      refine own_iload X32 hx hby at_195 rfl (pc' := 197) rfl ?_
      refine own_iload X32 hx hby at_197 rfl (pc' := 199) rfl ?_
      refine own_callV X32 hx hby hZ (by exact hml) hown (own_w hw 30 rfl) (own_w hw 31 rfl) (own_w hw 33 rfl) (own_w hw 32 rfl) (own_w hw 2 rfl) (own_w hw 34 rfl) (by decide) e32 0 (by decide) (by decide) (by decide) (by decide) (argsL := [(.int z9), (.int z10)]) (rest := []) (lenOf pd__ZZ_V rfl) rfl (Nat.le_of_eq rfl) E30 (rmA l Z a0 hw b25 z9 z10 (((0 : Int64) + (1 : Int64)) + (1 : Int64)) (((0 : Int64) + (own_bit z5).toInt64) + (own_bit z7).toInt64) (((0 : Int64) + (own_bit z6).toInt64) + (own_bit z8).toInt64) n0 T30.heap n0_b25 E30 FQ30 FM30 FT30) at_199 (pc' := 202) rfl ?_
      intro v33 T33 L33 X33 hQ33
      obtain ⟨rfl, Nq33, K33, E33, FQ33, FM33, FT33⟩ := hQ33
      have N33 := Fr.app N30 Nq33
      have Z33 : n0 ≤ T33.heap.size := Nat.le_trans Z30 K33.1
      show GoP p e below Φ (T33.setTop (mkF m 202 #[.val (.int p1), .val (.int p2), .val (.int p3), .val (.int p4), .val (.int (3 : Int32)), .val (.int z5), .val (.int z6), .val (.int z7), .val (.int z8), .val (.int z9), .val (.int z10), .val (.ref b25), .val (.long (((0 : Int64) + ((own_bit z5).toInt64)) + ((own_bit z7).toInt64))), .second, .val (.long (((0 : Int64) + ((own_bit z6).toInt64)) + ((own_bit z8).toInt64))), .second] []))
      refine own_lload X33 hx hby at_202 rfl (pc' := 204) rfl ?_
      refine own_iload X33 hx hby at_204 rfl (pc' := 206) rfl ?_
      refine own_callS X33 hx hby hZ (by exact hml) hown (own_w hw 35 rfl) (own_w hw 36 rfl) (own_w hw 37 rfl) (own_w hw 38 rfl) (by decide) rfl 2 (by decide) (by decide) (by decide) (by decide) (argsL := [(.int z9)]) (rest := [(.long (((0 : Int64) + ((own_bit z5).toInt64)) + ((own_bit z7).toInt64)))]) (lenOf pd__Z_I rfl) rfl (rmB l Z a0 hw z9 T33.heap) (Nat.le_of_eq rfl) at_206 (pc' := 209) rfl ?_
      intro v34 T34 L34 X34 hQ34
      obtain ⟨rfl, rfl, e34⟩ := hQ34
      rw [List.append_nil] at X34
      replace e34 : T34.heap = T33.heap := e34
      show GoP p e below Φ (T34.setTop (mkF m 209 #[.val (.int p1), .val (.int p2), .val (.int p3), .val (.int p4), .val (.int (3 : Int32)), .val (.int z5), .val (.int z6), .val (.int z7), .val (.int z8), .val (.int z9), .val (.int z10), .val (.ref b25), .val (.long (((0 : Int64) + ((own_bit z5).toInt64)) + ((own_bit z7).toInt64))), .second, .val (.long (((0 : Int64) + ((own_bit z6).toInt64)) + ((own_bit z8).toInt64))), .second] [(.int (own_bit z9)), (.long (((0 : Int64) + ((own_bit z5).toInt64)) + ((own_bit z7).toInt64)))]))
      refine own_i2l X34 hx hby at_209 (pc' := 210) rfl ?_
      refine own_ladd X34 hx hby at_210 (pc' := 211) rfl ?_
      refine own_lstore X34 hx hby at_211  (Ls' := #[.val (.int p1), .val (.int p2), .val (.int p3), .val (.int p4), .val (.int (3 : Int32)), .val (.int z5), .val (.int z6), .val (.int z7), .val (.int z8), .val (.int z9), .val (.int z10), .val (.ref b25), .val (.long ((((0 : Int64) + ((own_bit z5).toInt64)) + ((own_bit z7).toInt64)) + ((own_bit z9).toInt64))), .second, .val (.long (((0 : Int64) + ((own_bit z6).toInt64)) + ((own_bit z8).toInt64))), .second]) rfl (pc' := 213) rfl ?_
      refine own_lload X34 hx hby at_213 rfl (pc' := 215) rfl ?_
      refine own_iload X34 hx hby at_215 rfl (pc' := 217) rfl ?_
      refine own_callS X34 hx hby hZ (by exact hml) hown (own_w hw 35 rfl) (own_w hw 36 rfl) (own_w hw 37 rfl) (own_w hw 38 rfl) (by decide) e34 2 (by decide) (by decide) (by decide) (by decide) (argsL := [(.int z10)]) (rest := [(.long (((0 : Int64) + ((own_bit z6).toInt64)) + ((own_bit z8).toInt64)))]) (lenOf pd__Z_I rfl) rfl (rmB l Z a0 hw z10 T33.heap) (Nat.le_of_eq rfl) at_217 (pc' := 220) rfl ?_
      intro v35 T35 L35 X35 hQ35
      obtain ⟨rfl, rfl, e35⟩ := hQ35
      rw [List.append_nil] at X35
      replace e35 : T35.heap = T33.heap := e35
      show GoP p e below Φ (T35.setTop (mkF m 220 #[.val (.int p1), .val (.int p2), .val (.int p3), .val (.int p4), .val (.int (3 : Int32)), .val (.int z5), .val (.int z6), .val (.int z7), .val (.int z8), .val (.int z9), .val (.int z10), .val (.ref b25), .val (.long ((((0 : Int64) + ((own_bit z5).toInt64)) + ((own_bit z7).toInt64)) + ((own_bit z9).toInt64))), .second, .val (.long (((0 : Int64) + ((own_bit z6).toInt64)) + ((own_bit z8).toInt64))), .second] [(.int (own_bit z10)), (.long (((0 : Int64) + ((own_bit z6).toInt64)) + ((own_bit z8).toInt64)))]))
      refine own_i2l X35 hx hby at_220 (pc' := 221) rfl ?_
      refine own_ladd X35 hx hby at_221 (pc' := 222) rfl ?_
      refine own_lstore X35 hx hby at_222  (Ls' := #[.val (.int p1), .val (.int p2), .val (.int p3), .val (.int p4), .val (.int (3 : Int32)), .val (.int z5), .val (.int z6), .val (.int z7), .val (.int z8), .val (.int z9), .val (.int z10), .val (.ref b25), .val (.long ((((0 : Int64) + ((own_bit z5).toInt64)) + ((own_bit z7).toInt64)) + ((own_bit z9).toInt64))), .second, .val (.long ((((0 : Int64) + ((own_bit z6).toInt64)) + ((own_bit z8).toInt64)) + ((own_bit z10).toInt64))), .second]) rfl (pc' := 224) rfl ?_
      refine own_aload X35 hx hby at_224 rfl rfl (pc' := 226) rfl ?_
      refine own_callV X35 hx hby hZ (by exact hml) hown (own_w hw 9 rfl) (own_w hw 10 rfl) (own_w hw 12 rfl) (own_w hw 11 rfl) (own_w hw 2 rfl) (own_w hw 13 rfl) (by decide) e35 0 (by decide) (by decide) (by decide) (by decide) (argsL := []) (rest := []) (lenOf pd___J rfl) rfl (Nat.le_of_eq rfl) E33 (rm_queries l Z a0 hw b25 ((((0 : Int64) + (1 : Int64)) + (1 : Int64)) + (1 : Int64)) T33.heap FQ33) at_226 (pc' := 229) rfl ?_
      intro v36 T36 L36 X36 hQ36
      obtain ⟨rfl, rfl, e36⟩ := hQ36
      rw [List.append_nil] at X36
      replace e36 : T36.heap = T33.heap := e36
      show GoP p e below Φ (T36.setTop (mkF m 229 #[.val (.int p1), .val (.int p2), .val (.int p3), .val (.int p4), .val (.int (3 : Int32)), .val (.int z5), .val (.int z6), .val (.int z7), .val (.int z8), .val (.int z9), .val (.int z10), .val (.ref b25), .val (.long ((((0 : Int64) + ((own_bit z5).toInt64)) + ((own_bit z7).toInt64)) + ((own_bit z9).toInt64))), .second, .val (.long ((((0 : Int64) + ((own_bit z6).toInt64)) + ((own_bit z8).toInt64)) + ((own_bit z10).toInt64))), .second] [(.long ((((0 : Int64) + (1 : Int64)) + (1 : Int64)) + (1 : Int64)))]))
      refine own_iload X36 hx hby at_229 rfl (pc' := 231) rfl ?_
      refine own_i2l X36 hx hby at_231 (pc' := 232) rfl ?_
      refine own_lcmp X36 hx hby at_232 (pc' := 233) rfl ?_
      refine own_ifN X36 hx hby at_233 ((if0 _ _).trans (teq ((lw_eq _ _).mpr (by decide))).2) (pc' := 236) rfl ?_
      refine own_aload X36 hx hby at_236 rfl rfl (pc' := 238) rfl ?_
      refine own_callV X36 hx hby hZ (by exact hml) hown (own_w hw 16 rfl) (own_w hw 17 rfl) (own_w hw 19 rfl) (own_w hw 18 rfl) (own_w hw 2 rfl) (own_w hw 20 rfl) (by decide) e36 0 (by decide) (by decide) (by decide) (by decide) (argsL := []) (rest := []) (lenOf pd___J rfl) rfl (Nat.le_of_eq rfl) E33 (rm_met l Z a0 hw b25 ((((0 : Int64) + (own_bit z5).toInt64) + (own_bit z7).toInt64) + (own_bit z9).toInt64) T33.heap FM33) at_238 (pc' := 241) rfl ?_
      intro v37 T37 L37 X37 hQ37
      obtain ⟨rfl, rfl, e37⟩ := hQ37
      rw [List.append_nil] at X37
      replace e37 : T37.heap = T33.heap := e37
      show GoP p e below Φ (T37.setTop (mkF m 241 #[.val (.int p1), .val (.int p2), .val (.int p3), .val (.int p4), .val (.int (3 : Int32)), .val (.int z5), .val (.int z6), .val (.int z7), .val (.int z8), .val (.int z9), .val (.int z10), .val (.ref b25), .val (.long ((((0 : Int64) + ((own_bit z5).toInt64)) + ((own_bit z7).toInt64)) + ((own_bit z9).toInt64))), .second, .val (.long ((((0 : Int64) + ((own_bit z6).toInt64)) + ((own_bit z8).toInt64)) + ((own_bit z10).toInt64))), .second] [(.long ((((0 : Int64) + (own_bit z5).toInt64) + (own_bit z7).toInt64) + (own_bit z9).toInt64))]))
      refine own_lload X37 hx hby at_241 rfl (pc' := 243) rfl ?_
      refine own_lcmp X37 hx hby at_243 (pc' := 244) rfl ?_
      refine own_ifN X37 hx hby at_244 ((if0 _ _).trans (teq ((lw_eq _ _).mpr rfl)).2) (pc' := 247) rfl ?_
      refine own_aload X37 hx hby at_247 rfl rfl (pc' := 249) rfl ?_
      refine own_callV X37 hx hby hZ (by exact hml) hown (own_w hw 23 rfl) (own_w hw 24 rfl) (own_w hw 26 rfl) (own_w hw 25 rfl) (own_w hw 2 rfl) (own_w hw 27 rfl) (by decide) e37 0 (by decide) (by decide) (by decide) (by decide) (argsL := []) (rest := []) (lenOf pd___J rfl) rfl (Nat.le_of_eq rfl) E33 (rm_metStrictly l Z a0 hw b25 ((((0 : Int64) + (own_bit z6).toInt64) + (own_bit z8).toInt64) + (own_bit z10).toInt64) T33.heap FT33) at_249 (pc' := 252) rfl ?_
      intro v38 T38 L38 X38 hQ38
      obtain ⟨rfl, rfl, e38⟩ := hQ38
      rw [List.append_nil] at X38
      replace e38 : T38.heap = T33.heap := e38
      show GoP p e below Φ (T38.setTop (mkF m 252 #[.val (.int p1), .val (.int p2), .val (.int p3), .val (.int p4), .val (.int (3 : Int32)), .val (.int z5), .val (.int z6), .val (.int z7), .val (.int z8), .val (.int z9), .val (.int z10), .val (.ref b25), .val (.long ((((0 : Int64) + ((own_bit z5).toInt64)) + ((own_bit z7).toInt64)) + ((own_bit z9).toInt64))), .second, .val (.long ((((0 : Int64) + ((own_bit z6).toInt64)) + ((own_bit z8).toInt64)) + ((own_bit z10).toInt64))), .second] [(.long ((((0 : Int64) + (own_bit z6).toInt64) + (own_bit z8).toInt64) + (own_bit z10).toInt64))]))
      refine own_lload X38 hx hby at_252 rfl (pc' := 254) rfl ?_
      refine own_lcmp X38 hx hby at_254 (pc' := 255) rfl ?_
      refine own_ifN X38 hx hby at_255 ((if0 _ _).trans (teq ((lw_eq _ _).mpr rfl)).2) (pc' := 258) rfl ?_
      refine own_iconst X38 hx hby at_258 (v := (1 : Int32)) rfl (pc' := 259) rfl ?_
      refine own_goto X38 hx hby at_259 (by decide) (pc' := 263) (by decide) ?_
      exact own_retN X38 hx hby fin hret (by simp) rfl at_263 (by decide) (by decide) ⟨rfl, N33⟩
  have J80 : ∀ z5 z6 z7 z8 z9 : Int32, GoP p e below Φ (T.setTop (mkF m 80 #[.val (.int p1), .val (.int p2), .val (.int p3), .val (.int p4), .val (.int (p1 &&& (3 : Int32))), .val (.int z5), .val (.int z6), .val (.int z7), .val (.int z8), .val (.int z9), .unset, .unset, .unset, .unset, .unset, .unset] [])) := by
    intro z5 z6 z7 z8 z9
    refine own_iload X hx hby at_80 rfl (pc' := 82) rfl ?_
    by_cases hc82_39 : z9 = (0 : Int32)
    · refine own_ifY X hx hby at_82 ((if0 _ _).trans (teq hc82_39).1) (by decide) (pc' := 95) (by decide) ?_
      refine own_iconst X hx hby at_95 (v := (0 : Int32)) rfl (pc' := 96) rfl ?_
      refine own_istore X hx hby at_96  (Ls' := #[.val (.int p1), .val (.int p2), .val (.int p3), .val (.int p4), .val (.int (p1 &&& (3 : Int32))), .val (.int z5), .val (.int z6), .val (.int z7), .val (.int z8), .val (.int z9), .val (.int (0 : Int32)), .unset, .unset, .unset, .unset, .unset]) rfl (pc' := 98) rfl ?_
      exact J98 z5 z6 z7 z8 z9 (0 : Int32)
    · refine own_ifN X hx hby at_82 ((if0 _ _).trans (feq hc82_39).1) (pc' := 85) rfl ?_
      refine own_iloadN X hx hby at_85 rfl (pc' := 86) rfl ?_
      refine own_iconst X hx hby at_86 (v := (2 : Int32)) rfl (pc' := 87) rfl ?_
      refine own_iand X hx hby at_87 (pc' := 88) rfl ?_
      by_cases hc88_40 : (p4 &&& (2 : Int32)) = (0 : Int32)
      · refine own_ifY X hx hby at_88 ((if0 _ _).trans (teq hc88_40).1) (by decide) (pc' := 95) (by decide) ?_
        refine own_iconst X hx hby at_95 (v := (0 : Int32)) rfl (pc' := 96) rfl ?_
        refine own_istore X hx hby at_96  (Ls' := #[.val (.int p1), .val (.int p2), .val (.int p3), .val (.int p4), .val (.int (p1 &&& (3 : Int32))), .val (.int z5), .val (.int z6), .val (.int z7), .val (.int z8), .val (.int z9), .val (.int (0 : Int32)), .unset, .unset, .unset, .unset, .unset]) rfl (pc' := 98) rfl ?_
        exact J98 z5 z6 z7 z8 z9 (0 : Int32)
      · refine own_ifN X hx hby at_88 ((if0 _ _).trans (feq hc88_40).1) (pc' := 91) rfl ?_
        refine own_iconst X hx hby at_91 (v := (1 : Int32)) rfl (pc' := 92) rfl ?_
        refine own_goto X hx hby at_92 (by decide) (pc' := 96) (by decide) ?_
        refine own_istore X hx hby at_96  (Ls' := #[.val (.int p1), .val (.int p2), .val (.int p3), .val (.int p4), .val (.int (p1 &&& (3 : Int32))), .val (.int z5), .val (.int z6), .val (.int z7), .val (.int z8), .val (.int z9), .val (.int (1 : Int32)), .unset, .unset, .unset, .unset, .unset]) rfl (pc' := 98) rfl ?_
        exact J98 z5 z6 z7 z8 z9 (1 : Int32)
  have J67 : ∀ z5 z6 z7 z8 : Int32, GoP p e below Φ (T.setTop (mkF m 67 #[.val (.int p1), .val (.int p2), .val (.int p3), .val (.int p4), .val (.int (p1 &&& (3 : Int32))), .val (.int z5), .val (.int z6), .val (.int z7), .val (.int z8), .unset, .unset, .unset, .unset, .unset, .unset, .unset] [])) := by
    intro z5 z6 z7 z8
    refine own_iloadN X hx hby at_67 rfl (pc' := 68) rfl ?_
    refine own_iconst X hx hby at_68 (v := (1 : Int32)) rfl (pc' := 69) rfl ?_
    refine own_iand X hx hby at_69 (pc' := 70) rfl ?_
    by_cases hc70_41 : (p4 &&& (1 : Int32)) = (0 : Int32)
    · refine own_ifY X hx hby at_70 ((if0 _ _).trans (teq hc70_41).1) (by decide) (pc' := 77) (by decide) ?_
      refine own_iconst X hx hby at_77 (v := (0 : Int32)) rfl (pc' := 78) rfl ?_
      refine own_istore X hx hby at_78  (Ls' := #[.val (.int p1), .val (.int p2), .val (.int p3), .val (.int p4), .val (.int (p1 &&& (3 : Int32))), .val (.int z5), .val (.int z6), .val (.int z7), .val (.int z8), .val (.int (0 : Int32)), .unset, .unset, .unset, .unset, .unset, .unset]) rfl (pc' := 80) rfl ?_
      exact J80 z5 z6 z7 z8 (0 : Int32)
    · refine own_ifN X hx hby at_70 ((if0 _ _).trans (feq hc70_41).1) (pc' := 73) rfl ?_
      refine own_iconst X hx hby at_73 (v := (1 : Int32)) rfl (pc' := 74) rfl ?_
      refine own_goto X hx hby at_74 (by decide) (pc' := 78) (by decide) ?_
      refine own_istore X hx hby at_78  (Ls' := #[.val (.int p1), .val (.int p2), .val (.int p3), .val (.int p4), .val (.int (p1 &&& (3 : Int32))), .val (.int z5), .val (.int z6), .val (.int z7), .val (.int z8), .val (.int (1 : Int32)), .unset, .unset, .unset, .unset, .unset, .unset]) rfl (pc' := 80) rfl ?_
      exact J80 z5 z6 z7 z8 (1 : Int32)
  have J49 : ∀ z5 z6 z7 : Int32, GoP p e below Φ (T.setTop (mkF m 49 #[.val (.int p1), .val (.int p2), .val (.int p3), .val (.int p4), .val (.int (p1 &&& (3 : Int32))), .val (.int z5), .val (.int z6), .val (.int z7), .unset, .unset, .unset, .unset, .unset, .unset, .unset, .unset] [])) := by
    intro z5 z6 z7
    refine own_iload X hx hby at_49 rfl (pc' := 51) rfl ?_
    by_cases hc51_42 : z7 = (0 : Int32)
    · refine own_ifY X hx hby at_51 ((if0 _ _).trans (teq hc51_42).1) (by decide) (pc' := 64) (by decide) ?_
      refine own_iconst X hx hby at_64 (v := (0 : Int32)) rfl (pc' := 65) rfl ?_
      refine own_istore X hx hby at_65  (Ls' := #[.val (.int p1), .val (.int p2), .val (.int p3), .val (.int p4), .val (.int (p1 &&& (3 : Int32))), .val (.int z5), .val (.int z6), .val (.int z7), .val (.int (0 : Int32)), .unset, .unset, .unset, .unset, .unset, .unset, .unset]) rfl (pc' := 67) rfl ?_
      exact J67 z5 z6 z7 (0 : Int32)
    · refine own_ifN X hx hby at_51 ((if0 _ _).trans (feq hc51_42).1) (pc' := 54) rfl ?_
      refine own_iloadN X hx hby at_54 rfl (pc' := 55) rfl ?_
      refine own_iconst X hx hby at_55 (v := (2 : Int32)) rfl (pc' := 56) rfl ?_
      refine own_iand X hx hby at_56 (pc' := 57) rfl ?_
      by_cases hc57_43 : (p3 &&& (2 : Int32)) = (0 : Int32)
      · refine own_ifY X hx hby at_57 ((if0 _ _).trans (teq hc57_43).1) (by decide) (pc' := 64) (by decide) ?_
        refine own_iconst X hx hby at_64 (v := (0 : Int32)) rfl (pc' := 65) rfl ?_
        refine own_istore X hx hby at_65  (Ls' := #[.val (.int p1), .val (.int p2), .val (.int p3), .val (.int p4), .val (.int (p1 &&& (3 : Int32))), .val (.int z5), .val (.int z6), .val (.int z7), .val (.int (0 : Int32)), .unset, .unset, .unset, .unset, .unset, .unset, .unset]) rfl (pc' := 67) rfl ?_
        exact J67 z5 z6 z7 (0 : Int32)
      · refine own_ifN X hx hby at_57 ((if0 _ _).trans (feq hc57_43).1) (pc' := 60) rfl ?_
        refine own_iconst X hx hby at_60 (v := (1 : Int32)) rfl (pc' := 61) rfl ?_
        refine own_goto X hx hby at_61 (by decide) (pc' := 65) (by decide) ?_
        refine own_istore X hx hby at_65  (Ls' := #[.val (.int p1), .val (.int p2), .val (.int p3), .val (.int p4), .val (.int (p1 &&& (3 : Int32))), .val (.int z5), .val (.int z6), .val (.int z7), .val (.int (1 : Int32)), .unset, .unset, .unset, .unset, .unset, .unset, .unset]) rfl (pc' := 67) rfl ?_
        exact J67 z5 z6 z7 (1 : Int32)
  have J36 : ∀ z5 z6 : Int32, GoP p e below Φ (T.setTop (mkF m 36 #[.val (.int p1), .val (.int p2), .val (.int p3), .val (.int p4), .val (.int (p1 &&& (3 : Int32))), .val (.int z5), .val (.int z6), .unset, .unset, .unset, .unset, .unset, .unset, .unset, .unset, .unset] [])) := by
    intro z5 z6
    refine own_iloadN X hx hby at_36 rfl (pc' := 37) rfl ?_
    refine own_iconst X hx hby at_37 (v := (1 : Int32)) rfl (pc' := 38) rfl ?_
    refine own_iand X hx hby at_38 (pc' := 39) rfl ?_
    by_cases hc39_44 : (p3 &&& (1 : Int32)) = (0 : Int32)
    · refine own_ifY X hx hby at_39 ((if0 _ _).trans (teq hc39_44).1) (by decide) (pc' := 46) (by decide) ?_
      refine own_iconst X hx hby at_46 (v := (0 : Int32)) rfl (pc' := 47) rfl ?_
      refine own_istore X hx hby at_47  (Ls' := #[.val (.int p1), .val (.int p2), .val (.int p3), .val (.int p4), .val (.int (p1 &&& (3 : Int32))), .val (.int z5), .val (.int z6), .val (.int (0 : Int32)), .unset, .unset, .unset, .unset, .unset, .unset, .unset, .unset]) rfl (pc' := 49) rfl ?_
      exact J49 z5 z6 (0 : Int32)
    · refine own_ifN X hx hby at_39 ((if0 _ _).trans (feq hc39_44).1) (pc' := 42) rfl ?_
      refine own_iconst X hx hby at_42 (v := (1 : Int32)) rfl (pc' := 43) rfl ?_
      refine own_goto X hx hby at_43 (by decide) (pc' := 47) (by decide) ?_
      refine own_istore X hx hby at_47  (Ls' := #[.val (.int p1), .val (.int p2), .val (.int p3), .val (.int p4), .val (.int (p1 &&& (3 : Int32))), .val (.int z5), .val (.int z6), .val (.int (1 : Int32)), .unset, .unset, .unset, .unset, .unset, .unset, .unset, .unset]) rfl (pc' := 49) rfl ?_
      exact J49 z5 z6 (1 : Int32)
  have J18 : ∀ z5 : Int32, GoP p e below Φ (T.setTop (mkF m 18 #[.val (.int p1), .val (.int p2), .val (.int p3), .val (.int p4), .val (.int (p1 &&& (3 : Int32))), .val (.int z5), .unset, .unset, .unset, .unset, .unset, .unset, .unset, .unset, .unset, .unset] [])) := by
    intro z5
    refine own_iload X hx hby at_18 rfl (pc' := 20) rfl ?_
    by_cases hc20_45 : z5 = (0 : Int32)
    · refine own_ifY X hx hby at_20 ((if0 _ _).trans (teq hc20_45).1) (by decide) (pc' := 33) (by decide) ?_
      refine own_iconst X hx hby at_33 (v := (0 : Int32)) rfl (pc' := 34) rfl ?_
      refine own_istore X hx hby at_34  (Ls' := #[.val (.int p1), .val (.int p2), .val (.int p3), .val (.int p4), .val (.int (p1 &&& (3 : Int32))), .val (.int z5), .val (.int (0 : Int32)), .unset, .unset, .unset, .unset, .unset, .unset, .unset, .unset, .unset]) rfl (pc' := 36) rfl ?_
      exact J36 z5 (0 : Int32)
    · refine own_ifN X hx hby at_20 ((if0 _ _).trans (feq hc20_45).1) (pc' := 23) rfl ?_
      refine own_iloadN X hx hby at_23 rfl (pc' := 24) rfl ?_
      refine own_iconst X hx hby at_24 (v := (2 : Int32)) rfl (pc' := 25) rfl ?_
      refine own_iand X hx hby at_25 (pc' := 26) rfl ?_
      by_cases hc26_46 : (p2 &&& (2 : Int32)) = (0 : Int32)
      · refine own_ifY X hx hby at_26 ((if0 _ _).trans (teq hc26_46).1) (by decide) (pc' := 33) (by decide) ?_
        refine own_iconst X hx hby at_33 (v := (0 : Int32)) rfl (pc' := 34) rfl ?_
        refine own_istore X hx hby at_34  (Ls' := #[.val (.int p1), .val (.int p2), .val (.int p3), .val (.int p4), .val (.int (p1 &&& (3 : Int32))), .val (.int z5), .val (.int (0 : Int32)), .unset, .unset, .unset, .unset, .unset, .unset, .unset, .unset, .unset]) rfl (pc' := 36) rfl ?_
        exact J36 z5 (0 : Int32)
      · refine own_ifN X hx hby at_26 ((if0 _ _).trans (feq hc26_46).1) (pc' := 29) rfl ?_
        refine own_iconst X hx hby at_29 (v := (1 : Int32)) rfl (pc' := 30) rfl ?_
        refine own_goto X hx hby at_30 (by decide) (pc' := 34) (by decide) ?_
        refine own_istore X hx hby at_34  (Ls' := #[.val (.int p1), .val (.int p2), .val (.int p3), .val (.int p4), .val (.int (p1 &&& (3 : Int32))), .val (.int z5), .val (.int (1 : Int32)), .unset, .unset, .unset, .unset, .unset, .unset, .unset, .unset, .unset]) rfl (pc' := 36) rfl ?_
        exact J36 z5 (1 : Int32)
  refine own_iloadN X hx hby at_0 rfl (pc' := 1) rfl ?_
  refine own_iconst X hx hby at_1 (v := (3 : Int32)) rfl (pc' := 2) rfl ?_
  refine own_iand X hx hby at_2 (pc' := 3) rfl ?_
  refine own_istore X hx hby at_3  (Ls' := #[.val (.int p1), .val (.int p2), .val (.int p3), .val (.int p4), .val (.int (p1 &&& (3 : Int32))), .unset, .unset, .unset, .unset, .unset, .unset, .unset, .unset, .unset, .unset, .unset]) rfl (pc' := 5) rfl ?_
  refine own_iloadN X hx hby at_5 rfl (pc' := 6) rfl ?_
  refine own_iconst X hx hby at_6 (v := (1 : Int32)) rfl (pc' := 7) rfl ?_
  refine own_iand X hx hby at_7 (pc' := 8) rfl ?_
  by_cases hc8_47 : (p2 &&& (1 : Int32)) = (0 : Int32)
  · refine own_ifY X hx hby at_8 ((if0 _ _).trans (teq hc8_47).1) (by decide) (pc' := 15) (by decide) ?_
    refine own_iconst X hx hby at_15 (v := (0 : Int32)) rfl (pc' := 16) rfl ?_
    refine own_istore X hx hby at_16  (Ls' := #[.val (.int p1), .val (.int p2), .val (.int p3), .val (.int p4), .val (.int (p1 &&& (3 : Int32))), .val (.int (0 : Int32)), .unset, .unset, .unset, .unset, .unset, .unset, .unset, .unset, .unset, .unset]) rfl (pc' := 18) rfl ?_
    exact J18 (0 : Int32)
  · refine own_ifN X hx hby at_8 ((if0 _ _).trans (feq hc8_47).1) (pc' := 11) rfl ?_
    refine own_iconst X hx hby at_11 (v := (1 : Int32)) rfl (pc' := 12) rfl ?_
    refine own_goto X hx hby at_12 (by decide) (pc' := 16) (by decide) ?_
    refine own_istore X hx hby at_16  (Ls' := #[.val (.int p1), .val (.int p2), .val (.int p3), .val (.int p4), .val (.int (p1 &&& (3 : Int32))), .val (.int (1 : Int32)), .unset, .unset, .unset, .unset, .unset, .unset, .unset, .unset, .unset, .unset]) rfl (pc' := 18) rfl ?_
    exact J18 (1 : Int32)
set_option maxRecDepth 65536 in
set_option maxHeartbeats 40000000 in
theorem comes_1 {Post : Tables → Env → Array Value → State → Outcome → State → Prop} (hpost : ∀ tb e args s v u, (limb_1_1.after args s (.returned v) u = true ∧ limb_1_2.after args s (.returned v) u = true ∧ True) → FrameEnd s (.returned v) u (Jvm.fieldLocs frame_1_writes args s ++ Jvm.arrayLocs frame_1_arrays args s ++ Jvm.staticLocs frame_1_statics s) 16 128 → Post tb e args s (.returned v) u) :
    ArmFor flags0 classFile x code maxLocals ret World_1 tables_1 room_1 Calls_1 rest_1 Pre_1 Post := by
  intro l hfl _ _ p e ha hc hk s m args below hf hA hF happ hP
  obtain ⟨hcalls, hrest, hpre⟩ := hP
  obtain ⟨-, -, -, hnamed, -, -, -, hat⟩ := (Spec.applies_iff hf).mp happ
  obtain ⟨hg, hn⟩ := and_e (Cond.before_iff.mp (show (Jvm.Cond.and given_1 narrow_1).before args s = true from hpre))
  obtain ⟨g0, hg⟩ := and_e hg
  obtain ⟨w0, w1, w2, w3, rfl⟩ : ∃ w0 w1 w2 w3 : Value, args = #[w0, w1, w2, w3] := by
    have hs : args.size = 4 := by simpa [Cond.value, given_1] using g0
    obtain ⟨L⟩ := args
    match L, hs with
    | [w0, w1, w2, w3], _ => exact ⟨w0, w1, w2, w3, rfl⟩
  obtain ⟨q0, hg⟩ := and_e hg
  obtain ⟨q1, hg⟩ := and_e hg
  obtain ⟨q2, hg⟩ := and_e hg
  have q3 := hg
  have hw := fun d (hd : d ∈ tables_1) => atoms_spec (ws := Jvm.Cond.code x code maxLocals ret :: tables_1) hat d (List.mem_cons_of_mem _ hd)
  have hfit : Fit s := fun {y c} hc i hi => by
    obtain ⟨ha, rfl⟩ := Array.getElem?_eq_some_iff.mp hc
    have q := List.all_eq_true.mp ((Array.all_eq_true_iff_forall_mem.mp hF) _ (Array.getElem_mem ha)) i (List.mem_range.mpr hi)
    simpa [Array.getElem?_eq_getElem hi] using q
  obtain ⟨i0, f0⟩ := is_v q0
  obtain rfl : w0 = (.int i0) := Option.some.inj f0
  obtain ⟨i1, f1⟩ := is_v q1
  obtain rfl : w1 = (.int i1) := Option.some.inj f1
  obtain ⟨i2, f2⟩ := is_v q2
  obtain rfl : w2 = (.int i2) := Option.some.inj f2
  obtain ⟨i3, f3⟩ := is_v q3
  obtain rfl : w3 = (.int i3) := Option.some.inj f3
  obtain ⟨n, o, h1, h2, h3, _, L, rfl, ⟨rfl, N⟩, hq⟩ := rm0 l s _ hw i0 i1 i2 i3 s.heap.size s.heap (Nat.le_refl _) p e ha hc hk s m _ below hf ((Spec.applies_iff_loose hf).mp happ).1 ⟨rfl, State.Warmed39.refl s, rfl⟩ trivial
  refine ⟨n, _, h1, h2, h3, hpost _ _ _ _ _ _ ⟨Cond.after_iff.mpr rfl, Cond.after_iff.mpr (eq_i res_at (Term.int_eval (1)) rfl), trivial⟩ ⟨hq.1, hq.2.1, (hq.2.2.sift fun y hy => Or.inr (N y hy)).mono (by decide) (by decide)⟩⟩
theorem main_1_1 : Claimed_1_1 := comes_1 fun _ _ _ _ _ _ h hF => ⟨h.1, hF⟩
theorem main_1_2 : Claimed_1_2 := comes_1 fun _ _ _ _ _ _ h hF => ⟨h.2.1, hF⟩
end Jvm.Pilot.@@N@@
namespace Jvm.Pilot.@@N@@
open Jvm Jvm.ClassFile Sem Op Lib Jvm.Free Jvm.Stand Jvm.Pilot.@@N@@.Jvm.D
/-! MADE BY PROGRAM (witnessworld.py) out of the Statement's table words and the real class files: 9 classes; the members and pool entries that the words name. The judged class is class 1, her method 2. -/
namespace start1
open Jvm.ClassFile
def u (s : String) : CpInfo := .utf8 (stringToUtf16 s)
/-- a pool by its gaps: so many unusable entries, then the entry; so many at the end -/
def gap : Nat → List CpInfo → List CpInfo
  | 0, r => r
  | n + 1, r => .unusable :: gap n r
def poolList (es : List (Nat × CpInfo)) (last : Nat) : List CpInfo := es.foldr (fun e r => gap e.1 (e.2 :: r)) (gap last [])
def pool (es : List (Nat × CpInfo)) (last : Nat) : Array CpInfo := ⟨poolList es last⟩
def fileOf (pool : Array CpInfo) (this : Nat) (attrs : Array Attribute := #[]) (ms : Array MethodInfo := #[]) (fl : Nat := 33) (sup : Nat := 0) (ifs : Array Nat := #[]) (fds : Array FieldInfo := #[]) : ClassFile where
  minorVersion := 0
  majorVersion := 65
  constantPool := pool
  accessFlags := fl
  thisClass := this
  superClass := sup
  interfaces := ifs
  fields := fds
  methods := ms
  attributes := attrs
def plain (name : String) (sup : Option ClassId) : Class where
  name := name
  kind := .ordinary
  loader := none
  accessFlags := 33
  super := sup
  interfaces := #[]
  cf := none
  fields := #[]
  methods := #[]
  instanceTypes := #[]
  staticTypes := #[]
  resolved := #[]
  callSites := []
  init := .initialized
  statics := none
  mirror := none

def pool0 : Array CpInfo := pool [(5, u "<init>"), (0, u "()V"), (1, .class_ 10), (1, u "java/lang/Object")] 113

def k0c0 : Code := { maxStack := 0, maxLocals := 1, code := object_method_1_code, exceptionTable := #[], attributes := #[] }
def k0m0 : Method := { name := "<init>", desc := "()V", sig := { parameters := [], returnType := none }, accessFlags := 1, code := some k0c0 }
/-- java/lang/Object -/
def k0 : Class := { plain "java/lang/Object" none with
  accessFlags := 33
  interfaces := #[]
  cf := some (fileOf pool0 8 #[] #[{ accessFlags := 1, nameIndex := 5, descriptorIndex := 6, attributes := #[] }] 33 0 #[] #[])
  fields := #[]
  methods := #[k0m0]
  instanceTypes := #[]
  staticTypes := #[]
  resolved := Array.replicate 124 none
  statics := none }

def pool1 : Array CpInfo := pool [(2, .class_ 4), (0, .nameAndType 5 6), (0, u "java/lang/Object"), (0, u "<init>"), (0, u "()V"), (0, .class_ 8), (0, u "com/example/collectary/collectary/broker/Criterion"), (0, .methodref 7 3), (0, .methodref 7 11), (0, .nameAndType 12 13), (0, u "add"), (0, u "(ZZ)V"), (0, .methodref 15 16), (0, .class_ 17), (0, .nameAndType 18 19), (0, u "com/example/collectary/collectary/broker/CriterionAddPinLaw"), (0, u "bit"), (0, u "(Z)I"), (0, .methodref 7 21), (0, .nameAndType 22 23), (0, u "queries"), (0, u "()J"), (0, .methodref 7 25), (0, .nameAndType 26 23), (0, u "met"), (0, .methodref 7 28), (0, .nameAndType 29 23), (0, u "metStrictly"), (3, u "law"), (0, u "(IIII)Z")] 2

def k1m0 : Method := { name := "<init>", desc := "()V", sig := { parameters := [], returnType := none }, accessFlags := 1, code := none }
def k1c1 : Code := { maxStack := 1, maxLocals := 1, code := method_2_code, exceptionTable := #[], attributes := #[] }
def k1m1 : Method := { name := "bit", desc := "(Z)I", sig := { parameters := [.boolean], returnType := some .int }, accessFlags := 10, code := some k1c1 }
def k1c2 : Code := { maxStack := 4, maxLocals := 16, code := code, exceptionTable := #[], attributes := #[] }
def k1m2 : Method := { name := "law", desc := "(IIII)Z", sig := { parameters := [.int, .int, .int, .int], returnType := some .boolean }, accessFlags := 9, code := some k1c2 }
/-- com/example/collectary/collectary/broker/CriterionAddPinLaw -/
def k1 : Class := { plain "com/example/collectary/collectary/broker/CriterionAddPinLaw" (some 0) with
  accessFlags := 49
  interfaces := #[]
  cf := some (fileOf pool1 15 #[] #[{ accessFlags := 1, nameIndex := 5, descriptorIndex := 6, attributes := #[] }, { accessFlags := 10, nameIndex := 18, descriptorIndex := 19, attributes := #[] }, { accessFlags := 9, nameIndex := 33, descriptorIndex := 34, attributes := #[] }] 49 2 #[] #[])
  fields := #[]
  methods := #[k1m0, k1m1, k1m2]
  instanceTypes := #[]
  staticTypes := #[]
  resolved := Array.replicate 37 none
  statics := none }

def pool2 : Array CpInfo := pool [(1, .methodref 2 3), (0, .class_ 4), (0, .nameAndType 5 6), (0, u "java/lang/Object"), (0, u "<init>"), (0, u "()V"), (0, .fieldref 8 9), (0, .class_ 10), (0, .nameAndType 11 12), (0, u "com/example/collectary/collectary/broker/Criterion"), (0, u "queries"), (0, u "J"), (0, .fieldref 8 14), (0, .nameAndType 15 12), (0, u "met"), (0, .fieldref 8 17), (0, .nameAndType 18 12), (0, u "metStrictly"), (8, u "HUNDRED"), (0, u "Ljava/math/BigInteger;"), (41, u "add"), (0, u "(ZZ)V"), (1, u "()J")] 5

def k2c0 : Code := { maxStack := 1, maxLocals := 1, code := prog_5_method_1_code, exceptionTable := #[], attributes := #[] }
def k2m0 : Method := { name := "<init>", desc := "()V", sig := { parameters := [], returnType := none }, accessFlags := 1, code := some k2c0 }
def k2c1 : Code := { maxStack := 5, maxLocals := 3, code := prog_5_method_2_code, exceptionTable := #[], attributes := #[] }
def k2m1 : Method := { name := "add", desc := "(ZZ)V", sig := { parameters := [.boolean, .boolean], returnType := none }, accessFlags := 0, code := some k2c1 }
def k2c2 : Code := { maxStack := 2, maxLocals := 1, code := prog_5_method_3_code, exceptionTable := #[], attributes := #[] }
def k2m2 : Method := { name := "queries", desc := "()J", sig := { parameters := [], returnType := some .long }, accessFlags := 1, code := some k2c2 }
def k2c3 : Code := { maxStack := 2, maxLocals := 1, code := prog_5_method_4_code, exceptionTable := #[], attributes := #[] }
def k2m3 : Method := { name := "met", desc := "()J", sig := { parameters := [], returnType := some .long }, accessFlags := 1, code := some k2c3 }
def k2c4 : Code := { maxStack := 2, maxLocals := 1, code := prog_5_method_5_code, exceptionTable := #[], attributes := #[] }
def k2m4 : Method := { name := "metStrictly", desc := "()J", sig := { parameters := [], returnType := some .long }, accessFlags := 1, code := some k2c4 }
/-- com/example/collectary/collectary/broker/Criterion -/
def k2 : Class := { plain "com/example/collectary/collectary/broker/Criterion" (some 0) with
  accessFlags := 33
  interfaces := #[]
  cf := some (fileOf pool2 8 #[] #[{ accessFlags := 1, nameIndex := 5, descriptorIndex := 6, attributes := #[] }, { accessFlags := 0, nameIndex := 70, descriptorIndex := 71, attributes := #[] }, { accessFlags := 1, nameIndex := 11, descriptorIndex := 73, attributes := #[] }, { accessFlags := 1, nameIndex := 15, descriptorIndex := 73, attributes := #[] }, { accessFlags := 1, nameIndex := 18, descriptorIndex := 73, attributes := #[] }] 33 2 #[] #[{ accessFlags := 26, nameIndex := 27, descriptorIndex := 28, attributes := #[] }, { accessFlags := 2, nameIndex := 11, descriptorIndex := 12, attributes := #[] }, { accessFlags := 2, nameIndex := 15, descriptorIndex := 12, attributes := #[] }, { accessFlags := 2, nameIndex := 18, descriptorIndex := 12, attributes := #[] }])
  fields := #[{ name := "HUNDRED", type := (.object "java/math/BigInteger"), accessFlags := 26, slot := 0, constantValue := 0 }, { name := "queries", type := .long, accessFlags := 2, slot := 0, constantValue := 0 }, { name := "met", type := .long, accessFlags := 2, slot := 1, constantValue := 0 }, { name := "metStrictly", type := .long, accessFlags := 2, slot := 2, constantValue := 0 }]
  methods := #[k2m0, k2m1, k2m2, k2m3, k2m4]
  instanceTypes := #[.long, .long, .long]
  staticTypes := #[(.object "java/math/BigInteger")]
  resolved := Array.replicate 79 none
  statics := none }

def pool3 : Array CpInfo := pool [(1, u "java/lang/Cloneable"), (0, .class_ 1), (0, u "java/lang/Object"), (0, .class_ 3)] 3

/-- java/lang/Cloneable -/
def k3 : Class := { plain "java/lang/Cloneable" (some 0) with
  accessFlags := 1537
  interfaces := #[]
  cf := some (fileOf pool3 2 #[] #[] 1537 4 #[] #[])
  fields := #[]
  methods := #[]
  instanceTypes := #[]
  staticTypes := #[]
  resolved := Array.replicate 8 none
  statics := none }

def pool4 : Array CpInfo := pool [(1, u "java/io/Serializable"), (0, .class_ 1), (0, u "java/lang/Object"), (0, .class_ 3)] 3

/-- java/io/Serializable -/
def k4 : Class := { plain "java/io/Serializable" (some 0) with
  accessFlags := 1537
  interfaces := #[]
  cf := some (fileOf pool4 2 #[] #[] 1537 4 #[] #[])
  fields := #[]
  methods := #[]
  instanceTypes := #[]
  staticTypes := #[]
  resolved := Array.replicate 8 none
  statics := none }

/-- the primitive byte -/
def k5 : Class := { plain "byte" none with kind := .primitive 'B', accessFlags := 0x411 }
/-- [B -/
def k6 : Class := { plain "[B" (some 0) with kind := .array 5 .byte, interfaces := #[3, 4], accessFlags := 1041 }

/-- the primitive int -/
def k7 : Class := { plain "int" none with kind := .primitive 'I', accessFlags := 0x411 }
/-- [I -/
def k8 : Class := { plain "[I" (some 0) with kind := .array 7 .int, interfaces := #[3, 4], accessFlags := 1041 }

def heap : Heap := #[]
def classes : Array Class := #[k0, k1, k2, k3, k4, k5, k6, k7, k8]
def interned : List (Array UInt16 × Addr) := []
def slotsUsed : Nat := 0
def theMethod : MethodId := ⟨1, 2⟩
def args0 : Array Value := #[.int 3, .int 1, .int 3, .int 0]
def aboutOver (below : List Frame) : State where
  vm := { classes := classes, interned := interned.toArray }
  heap := heap
  slotsUsed := slotsUsed
  threads := #[{ frames := .invoking theMethod args0 :: below }]
def below0 : List Frame := [.native { method := ⟨0, 0⟩, args := #[] }]
def about1 : State := aboutOver below0
def p0 : Program := .bare "" "" ""
def e0 : Env := launch0.env 0 0 0
theorem w_frames : about1.frames = Frame.invoking theMethod args0 :: below0 := rfl
set_option maxRecDepth 65536 in
theorem w_args : argsFit about1.vm theMethod args0 = true := by decide +kernel
set_option maxRecDepth 65536 in
theorem w_heap : heapFits about1 = true := by decide +kernel
set_option maxRecDepth 65536 in
theorem w_runnable : about1.curStatus? = some .runnable := by decide +kernel
set_option maxRecDepth 65536 in
theorem w_alone : about1.alone = true := by decide +kernel
set_option maxRecDepth 65536 in
theorem w_named : about1.methodNamed? x = some theMethod := by decide +kernel
set_option maxRecDepth 65536 in
theorem w_hears : about1.hears theMethod below0 = true := by decide +kernel
set_option maxRecDepth 65536 in
theorem w_ripe : about1.ripe theMethod args0 below0 = true := by decide +kernel
theorem w_running : about1.status = .running := rfl
set_option maxRecDepth 65536 in
theorem w_room : about1.hasRoom e0.platform room_1 = true :=
  launch0.hasRoom_least _ room_1 (by decide +kernel) (by decide +kernel) (by decide +kernel) (by decide +kernel) (by decide +kernel) (by decide +kernel)
theorem allAtoms_all (ts : List Jvm.Cond) (a : Array Jvm.Value) (st : Jvm.State) : (allAtoms ts).before a st = ts.all (fun c => c.before a st) := by
  induction ts with
  | nil => rfl
  | cons c t ih =>
    show (Jvm.Cond.and c (allAtoms t)).before a st = _
    rw [Jvm.Cond.before_and, ih, List.all_cons]
def words1 : List Jvm.Cond := Jvm.Cond.code x code maxLocals ret :: tables_1
/-- a 'code' word, met by the world's own term for the bytes: nothing is compared byte by byte -/
theorem code_word {y : MethodName} {bytes : ByteArray} {mx : Nat} {rt : Option FieldType} {a : Array Value} {s : State} {m : MethodId} {meth : Method} {c : Code} (h1 : s.methodNamed? y = some m) (h2 : s.vm.method? m = some meth) (h3 : meth.code = some c) (h4 : c.code = bytes)
    (h5 : (c.maxLocals == mx && c.exceptionTable.isEmpty && decide (c.maxStack ≤ mostOperands) && decide (meth.sig.returnType = rt) && !meth.locks && decide (parseMethodDescriptor y.desc = some meth.sig)) = true) : (Jvm.Cond.code y bytes mx rt).before a s = true := by
  simp only [Bool.and_eq_true, beq_iff_eq, Bool.not_eq_true', decide_eq_true_eq] at h5
  obtain ⟨⟨⟨⟨⟨g1, g2⟩, g3⟩, g4⟩, g5⟩, g6⟩ := h5
  simp [Cond.before, Cond.holds, Cond.value, h1, h2, h3, h4, g1, g2, g3, g4, g5, g6]
def isCode : Jvm.Cond → Bool
  | .code _ _ _ _ => true
  | _ => false
theorem all_split {L : List Jvm.Cond} {P : Jvm.Cond → Bool} (h1 : L.all (fun c => isCode c || P c) = true) (h2 : ∀ c ∈ L.filter isCode, P c = true) : L.all P = true := by
  refine List.all_eq_true.mpr fun c hc => ?_
  have h := List.all_eq_true.mp h1 c hc
  rcases Bool.eq_false_or_eq_true (isCode c) with hi | hi
  · exact h2 c (List.mem_filter.mpr ⟨hc, hi⟩)
  · simpa [hi] using h
set_option maxRecDepth 65536 in
theorem w_c0 : (Jvm.Cond.code x code maxLocals ret).before args0 about1 = true := code_word (m := ⟨1, 2⟩) (meth := k1m2) (c := k1c2) (by decide +kernel) rfl rfl rfl (by decide +kernel)
set_option maxRecDepth 65536 in
theorem w_c1 : (Jvm.Cond.code ({ cls := "com/example/collectary/collectary/broker/Criterion", name := "<init>", desc := "()V" } : Jvm.MethodName) prog_5_method_1_code (1 : Nat) (Option.none : Option Jvm.ClassFile.FieldType)).before args0 about1 = true := code_word (m := ⟨2, 0⟩) (meth := k2m0) (c := k2c0) (by decide +kernel) rfl rfl rfl (by decide +kernel)
set_option maxRecDepth 65536 in
theorem w_c2 : (Jvm.Cond.code ({ cls := "java/lang/Object", name := "<init>", desc := "()V" } : Jvm.MethodName) object_method_1_code (1 : Nat) (Option.none : Option Jvm.ClassFile.FieldType)).before args0 about1 = true := code_word (m := ⟨0, 0⟩) (meth := k0m0) (c := k0c0) (by decide +kernel) rfl rfl rfl (by decide +kernel)
set_option maxRecDepth 65536 in
theorem w_c3 : (Jvm.Cond.code ({ cls := "com/example/collectary/collectary/broker/Criterion", name := "queries", desc := "()J" } : Jvm.MethodName) prog_5_method_3_code (1 : Nat) (Option.some Jvm.ClassFile.FieldType.long)).before args0 about1 = true := code_word (m := ⟨2, 2⟩) (meth := k2m2) (c := k2c2) (by decide +kernel) rfl rfl rfl (by decide +kernel)
set_option maxRecDepth 65536 in
theorem w_c4 : (Jvm.Cond.code ({ cls := "com/example/collectary/collectary/broker/Criterion", name := "met", desc := "()J" } : Jvm.MethodName) prog_5_method_4_code (1 : Nat) (Option.some Jvm.ClassFile.FieldType.long)).before args0 about1 = true := code_word (m := ⟨2, 3⟩) (meth := k2m3) (c := k2c3) (by decide +kernel) rfl rfl rfl (by decide +kernel)
set_option maxRecDepth 65536 in
theorem w_c5 : (Jvm.Cond.code ({ cls := "com/example/collectary/collectary/broker/Criterion", name := "metStrictly", desc := "()J" } : Jvm.MethodName) prog_5_method_5_code (1 : Nat) (Option.some Jvm.ClassFile.FieldType.long)).before args0 about1 = true := code_word (m := ⟨2, 4⟩) (meth := k2m4) (c := k2c4) (by decide +kernel) rfl rfl rfl (by decide +kernel)
set_option maxRecDepth 65536 in
theorem w_c6 : (Jvm.Cond.code ({ cls := "com/example/collectary/collectary/broker/Criterion", name := "add", desc := "(ZZ)V" } : Jvm.MethodName) prog_5_method_2_code (3 : Nat) (Option.none : Option Jvm.ClassFile.FieldType)).before args0 about1 = true := code_word (m := ⟨2, 1⟩) (meth := k2m1) (c := k2c1) (by decide +kernel) rfl rfl rfl (by decide +kernel)
set_option maxRecDepth 65536 in
theorem w_c7 : (Jvm.Cond.code ({ cls := "com/example/collectary/collectary/broker/CriterionAddPinLaw", name := "bit", desc := "(Z)I" } : Jvm.MethodName) method_2_code (1 : Nat) (Option.some Jvm.ClassFile.FieldType.int)).before args0 about1 = true := code_word (m := ⟨1, 1⟩) (meth := k1m1) (c := k1c1) (by decide +kernel) rfl rfl rfl (by decide +kernel)
def codes1 : List Jvm.Cond := [Jvm.Cond.code x code maxLocals ret, Jvm.Cond.code ({ cls := "com/example/collectary/collectary/broker/Criterion", name := "<init>", desc := "()V" } : Jvm.MethodName) prog_5_method_1_code (1 : Nat) (Option.none : Option Jvm.ClassFile.FieldType), Jvm.Cond.code ({ cls := "java/lang/Object", name := "<init>", desc := "()V" } : Jvm.MethodName) object_method_1_code (1 : Nat) (Option.none : Option Jvm.ClassFile.FieldType), Jvm.Cond.code ({ cls := "com/example/collectary/collectary/broker/Criterion", name := "queries", desc := "()J" } : Jvm.MethodName) prog_5_method_3_code (1 : Nat) (Option.some Jvm.ClassFile.FieldType.long), Jvm.Cond.code ({ cls := "com/example/collectary/collectary/broker/Criterion", name := "met", desc := "()J" } : Jvm.MethodName) prog_5_method_4_code (1 : Nat) (Option.some Jvm.ClassFile.FieldType.long), Jvm.Cond.code ({ cls := "com/example/collectary/collectary/broker/Criterion", name := "metStrictly", desc := "()J" } : Jvm.MethodName) prog_5_method_5_code (1 : Nat) (Option.some Jvm.ClassFile.FieldType.long), Jvm.Cond.code ({ cls := "com/example/collectary/collectary/broker/Criterion", name := "add", desc := "(ZZ)V" } : Jvm.MethodName) prog_5_method_2_code (3 : Nat) (Option.none : Option Jvm.ClassFile.FieldType), Jvm.Cond.code ({ cls := "com/example/collectary/collectary/broker/CriterionAddPinLaw", name := "bit", desc := "(Z)I" } : Jvm.MethodName) method_2_code (1 : Nat) (Option.some Jvm.ClassFile.FieldType.int)]
set_option maxRecDepth 65536 in
theorem codes_eq : words1.filter isCode = codes1 := rfl
theorem w_codes : ∀ c ∈ words1.filter isCode, c.before args0 about1 = true := by
  rw [codes_eq]
  intro c hc
  simp only [codes1, List.mem_cons, List.not_mem_nil, or_false] at hc
  rcases hc with rfl | rfl | rfl | rfl | rfl | rfl | rfl | rfl
  · exact w_c0
  · exact w_c1
  · exact w_c2
  · exact w_c3
  · exact w_c4
  · exact w_c5
  · exact w_c6
  · exact w_c7
set_option maxRecDepth 65536 in
theorem w_t1 : (words1.take 24).all (fun c => isCode c || c.before args0 about1) = true := by decide +kernel
set_option maxRecDepth 65536 in
theorem w_t2 : (words1.drop 24).all (fun c => isCode c || c.before args0 about1) = true := by decide +kernel
theorem w_tables : (allAtoms (Jvm.Cond.code x code maxLocals ret :: tables_1)).before args0 about1 = true := by
  rw [allAtoms_all]
  show words1.all (fun c => c.before args0 about1) = true
  refine all_split ?_ w_codes
  rw [← List.take_append_drop 24 words1, List.all_append, w_t1, w_t2]
  rfl
set_option maxRecDepth 65536 in
theorem w_case : (Jvm.Cond.and given_1 narrow_1).before args0 about1 = true := by decide +kernel
theorem w_applies : (headSpec (Jvm.Cond.code x code maxLocals ret :: tables_1) room_1).applies x e0.platform about1 = true :=
  (Spec.applies_iff w_frames).mpr ⟨w_running, w_runnable, w_alone, w_named, w_hears, w_ripe, w_room, w_tables⟩
theorem atStart : AtStart classFile x code maxLocals ret World_1 tables_1 room_1 Calls_1 rest_1 Pre_1 launch0 p0 e0 about1 theMethod args0 below0 :=
  ⟨lists_1, trivial, launch0.admits_env _ _ _, launch0.least_env, fairChoices_fair.cas, fairChoices_fair.clock, w_frames, w_args, w_heap, w_applies, trivial, trivial, w_case⟩
end start1
theorem witness_1 : WitnessClaimed_1 := ⟨start1.p0, start1.e0, start1.about1, start1.theMethod, start1.args0, start1.below0, start1.atStart⟩
end Jvm.Pilot.@@N@@
