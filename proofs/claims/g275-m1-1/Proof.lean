import JvmDerived
import JvmDerived.Pilot.@@N@@Statement
import JvmDerived.Pilot.@@N@@Code
set_option linter.unusedVariables false
set_option linter.unusedSimpArgs false
namespace Jvm.Pilot.@@N@@
open Jvm Jvm.ClassFile Sem Op Lib Jvm.Free Jvm.Stand Jvm.LawKit Jvm.RoadKit Bundle Jvm.Pilot.@@N@@.Jvm.D
section OwnKit
variable {p : Program} {l : Launch} {e : Env} {R : Room} {s : State} {m : MethodId} {args : Array Value} {below : List Frame} {meth : Method} {c : Code} {T : State} {locs : List Loc} {cells slots : Nat} {bytes : ByteArray} {Φ : State → Prop} {pc pc' : Nat} {Ls Ls' : Array Slot} {rest : List Value} {Z : State} {a0 : Array Value} {h : Heap}
/-- the run from A ends in a state with the property Φ -/
def GoP (p : Program) (e : Env) (below : List Frame) (Φ : State → Prop) (A : State) : Prop := ∃ t, Steps p.tables e below A t ∧ Φ t
theorem own_step {A B : State} (h : ∀ t, Steps p.tables e below B t → Steps p.tables e below A t) (g : GoP p e below Φ B) : GoP p e below Φ A := by
  obtain ⟨t, h1, h2⟩ := g; exact ⟨t, h t h1, h2⟩
theorem own_trans {A B : State} (h : Steps p.tables e below A B) (g : GoP p e below Φ B) : GoP p e below Φ A := by
  obtain ⟨t, h1, h2⟩ := g; exact ⟨t, h.trans h1, h2⟩
theorem own_w {L : List Jvm.Cond} (hw : ∀ d ∈ L, d.before a0 Z = true) (i : Nat) {d : Jvm.Cond} (q : L[i]? = some d) : d.before a0 Z = true := hw d (List.mem_of_getElem? q)

theorem own_iload (X : Stand p l e R s m args below meth c T locs cells slots) (hx : p.tables.exec = Jvm.exec) (hby : c.code = bytes) {k : Nat} {x : Int32} (hd : decode bytes pc = .ok (.iload k, 2)) (hl : Ls[k]? = some (.val (.int x))) (hp : pc + 2 = pc') (k : GoP p e below Φ (T.setTop (mkF m pc' Ls (.int x :: rest)))) : GoP p e below Φ (T.setTop (mkF m pc Ls (rest))) := by
  subst hp
  exact own_step (fun t q => XS.iload X.here hx rfl (hb hby hd) hl q) k
theorem own_iloadN (X : Stand p l e R s m args below meth c T locs cells slots) (hx : p.tables.exec = Jvm.exec) (hby : c.code = bytes) {k : Fin 4} {x : Int32} (hd : decode bytes pc = .ok (.iload_n k, 1)) (hl : Ls[k.val]? = some (.val (.int x))) (hp : pc + 1 = pc') (k : GoP p e below Φ (T.setTop (mkF m pc' Ls (.int x :: rest)))) : GoP p e below Φ (T.setTop (mkF m pc Ls (rest))) := by
  subst hp
  exact own_step (fun t q => XS.iloadN X.here hx rfl (hb hby hd) hl q) k
theorem own_istore (X : Stand p l e R s m args below meth c T locs cells slots) (hx : p.tables.exec = Jvm.exec) (hby : c.code = bytes) {k : Nat} {x : Int32} (hd : decode bytes pc = .ok (.istore k, 2)) (hl : storeLocals Ls k (.int x) = some Ls') (hp : pc + 2 = pc') (k : GoP p e below Φ (T.setTop (mkF m pc' Ls' (rest)))) : GoP p e below Φ (T.setTop (mkF m pc Ls (.int x :: rest))) := by
  subst hp
  exact own_step (fun t q => XS.istore X.here hx rfl (hb hby hd) rfl hl q) k
theorem own_istoreN (X : Stand p l e R s m args below meth c T locs cells slots) (hx : p.tables.exec = Jvm.exec) (hby : c.code = bytes) {k : Fin 4} {x : Int32} (hd : decode bytes pc = .ok (.istore_n k, 1)) (hl : storeLocals Ls k.val (.int x) = some Ls') (hp : pc + 1 = pc') (k : GoP p e below Φ (T.setTop (mkF m pc' Ls' (rest)))) : GoP p e below Φ (T.setTop (mkF m pc Ls (.int x :: rest))) := by
  subst hp
  exact own_step (fun t q => XS.istoreN X.here hx rfl (hb hby hd) rfl hl q) k
theorem own_lload (X : Stand p l e R s m args below meth c T locs cells slots) (hx : p.tables.exec = Jvm.exec) (hby : c.code = bytes) {k : Nat} {x : Int64} (hd : decode bytes pc = .ok (.lload k, 2)) (hl : Ls[k]? = some (.val (.long x))) (hp : pc + 2 = pc') (k : GoP p e below Φ (T.setTop (mkF m pc' Ls (.long x :: rest)))) : GoP p e below Φ (T.setTop (mkF m pc Ls (rest))) := by
  subst hp
  exact own_step (fun t q => XS.lload X.here hx rfl (hb hby hd) hl q) k
theorem own_lloadN (X : Stand p l e R s m args below meth c T locs cells slots) (hx : p.tables.exec = Jvm.exec) (hby : c.code = bytes) {k : Fin 4} {x : Int64} (hd : decode bytes pc = .ok (.lload_n k, 1)) (hl : Ls[k.val]? = some (.val (.long x))) (hp : pc + 1 = pc') (k : GoP p e below Φ (T.setTop (mkF m pc' Ls (.long x :: rest)))) : GoP p e below Φ (T.setTop (mkF m pc Ls (rest))) := by
  subst hp
  exact own_step (fun t q => XS.lloadN X.here hx rfl (hb hby hd) hl q) k
theorem own_lstore (X : Stand p l e R s m args below meth c T locs cells slots) (hx : p.tables.exec = Jvm.exec) (hby : c.code = bytes) {k : Nat} {x : Int64} (hd : decode bytes pc = .ok (.lstore k, 2)) (hl : storeLocals Ls k (.long x) = some Ls') (hp : pc + 2 = pc') (k : GoP p e below Φ (T.setTop (mkF m pc' Ls' (rest)))) : GoP p e below Φ (T.setTop (mkF m pc Ls (.long x :: rest))) := by
  subst hp
  exact own_step (fun t q => XS.lstore X.here hx rfl (hb hby hd) rfl hl q) k
theorem own_lstoreN (X : Stand p l e R s m args below meth c T locs cells slots) (hx : p.tables.exec = Jvm.exec) (hby : c.code = bytes) {k : Fin 4} {x : Int64} (hd : decode bytes pc = .ok (.lstore_n k, 1)) (hl : storeLocals Ls k.val (.long x) = some Ls') (hp : pc + 1 = pc') (k : GoP p e below Φ (T.setTop (mkF m pc' Ls' (rest)))) : GoP p e below Φ (T.setTop (mkF m pc Ls (.long x :: rest))) := by
  subst hp
  exact own_step (fun t q => XS.lstoreN X.here hx rfl (hb hby hd) rfl hl q) k
theorem own_aload (X : Stand p l e R s m args below meth c T locs cells slots) (hx : p.tables.exec = Jvm.exec) (hby : c.code = bytes) {k : Nat} {x : Value} (hd : decode bytes pc = .ok (.aload k, 2)) (hl : Ls[k]? = some (.val x)) (hr : x.isRef = true) (hp : pc + 2 = pc') (k : GoP p e below Φ (T.setTop (mkF m pc' Ls (x :: rest)))) : GoP p e below Φ (T.setTop (mkF m pc Ls (rest))) := by
  subst hp
  exact own_step (fun t q => XS.aload X.here hx rfl (hb hby hd) hl hr q) k
theorem own_aloadN (X : Stand p l e R s m args below meth c T locs cells slots) (hx : p.tables.exec = Jvm.exec) (hby : c.code = bytes) {k : Fin 4} {x : Value} (hd : decode bytes pc = .ok (.aload_n k, 1)) (hl : Ls[k.val]? = some (.val x)) (hr : x.isRef = true) (hp : pc + 1 = pc') (k : GoP p e below Φ (T.setTop (mkF m pc' Ls (x :: rest)))) : GoP p e below Φ (T.setTop (mkF m pc Ls (rest))) := by
  subst hp
  exact own_step (fun t q => XS.aloadN X.here hx rfl (hb hby hd) hl hr q) k
theorem own_astore (X : Stand p l e R s m args below meth c T locs cells slots) (hx : p.tables.exec = Jvm.exec) (hby : c.code = bytes) {k : Nat} {x : Value} (hd : decode bytes pc = .ok (.astore k, 2)) (hr : x.isRef = true) (hl : storeLocals Ls k x = some Ls') (hp : pc + 2 = pc') (k : GoP p e below Φ (T.setTop (mkF m pc' Ls' (rest)))) : GoP p e below Φ (T.setTop (mkF m pc Ls (x :: rest))) := by
  subst hp
  exact own_step (fun t q => XS.astore X.here hx rfl (hb hby hd) rfl hr hl q) k
theorem own_astoreN (X : Stand p l e R s m args below meth c T locs cells slots) (hx : p.tables.exec = Jvm.exec) (hby : c.code = bytes) {k : Fin 4} {x : Value} (hd : decode bytes pc = .ok (.astore_n k, 1)) (hr : x.isRef = true) (hl : storeLocals Ls k.val x = some Ls') (hp : pc + 1 = pc') (k : GoP p e below Φ (T.setTop (mkF m pc' Ls' (rest)))) : GoP p e below Φ (T.setTop (mkF m pc Ls (x :: rest))) := by
  subst hp
  exact own_step (fun t q => XS.astoreN X.here hx rfl (hb hby hd) rfl hr hl q) k
theorem own_iadd (X : Stand p l e R s m args below meth c T locs cells slots) (hx : p.tables.exec = Jvm.exec) (hby : c.code = bytes) {x y : Int32} (hd : decode bytes pc = .ok (.iadd, 1)) (hp : pc + 1 = pc') (k : GoP p e below Φ (T.setTop (mkF m pc' Ls (.int (x + y) :: rest)))) : GoP p e below Φ (T.setTop (mkF m pc Ls (.int y :: .int x :: rest))) := by
  subst hp
  exact own_step (fun t q => XS.iadd X.here hx rfl (hb hby hd) rfl q) k
theorem own_ladd (X : Stand p l e R s m args below meth c T locs cells slots) (hx : p.tables.exec = Jvm.exec) (hby : c.code = bytes) {x y : Int64} (hd : decode bytes pc = .ok (.ladd, 1)) (hp : pc + 1 = pc') (k : GoP p e below Φ (T.setTop (mkF m pc' Ls (.long (x + y) :: rest)))) : GoP p e below Φ (T.setTop (mkF m pc Ls (.long y :: .long x :: rest))) := by
  subst hp
  exact own_step (fun t q => XS.ladd X.here hx rfl (hb hby hd) rfl q) k
theorem own_isub (X : Stand p l e R s m args below meth c T locs cells slots) (hx : p.tables.exec = Jvm.exec) (hby : c.code = bytes) {x y : Int32} (hd : decode bytes pc = .ok (.isub, 1)) (hp : pc + 1 = pc') (k : GoP p e below Φ (T.setTop (mkF m pc' Ls (.int (x - y) :: rest)))) : GoP p e below Φ (T.setTop (mkF m pc Ls (.int y :: .int x :: rest))) := by
  subst hp
  exact own_step (fun t q => XS.isub X.here hx rfl (hb hby hd) rfl q) k
theorem own_lsub (X : Stand p l e R s m args below meth c T locs cells slots) (hx : p.tables.exec = Jvm.exec) (hby : c.code = bytes) {x y : Int64} (hd : decode bytes pc = .ok (.lsub, 1)) (hp : pc + 1 = pc') (k : GoP p e below Φ (T.setTop (mkF m pc' Ls (.long (x - y) :: rest)))) : GoP p e below Φ (T.setTop (mkF m pc Ls (.long y :: .long x :: rest))) := by
  subst hp
  exact own_step (fun t q => XS.lsub X.here hx rfl (hb hby hd) rfl q) k
theorem own_imul (X : Stand p l e R s m args below meth c T locs cells slots) (hx : p.tables.exec = Jvm.exec) (hby : c.code = bytes) {x y : Int32} (hd : decode bytes pc = .ok (.imul, 1)) (hp : pc + 1 = pc') (k : GoP p e below Φ (T.setTop (mkF m pc' Ls (.int (x * y) :: rest)))) : GoP p e below Φ (T.setTop (mkF m pc Ls (.int y :: .int x :: rest))) := by
  subst hp
  exact own_step (fun t q => XS.imul X.here hx rfl (hb hby hd) rfl q) k
theorem own_lmul (X : Stand p l e R s m args below meth c T locs cells slots) (hx : p.tables.exec = Jvm.exec) (hby : c.code = bytes) {x y : Int64} (hd : decode bytes pc = .ok (.lmul, 1)) (hp : pc + 1 = pc') (k : GoP p e below Φ (T.setTop (mkF m pc' Ls (.long (x * y) :: rest)))) : GoP p e below Φ (T.setTop (mkF m pc Ls (.long y :: .long x :: rest))) := by
  subst hp
  exact own_step (fun t q => XS.lmul X.here hx rfl (hb hby hd) rfl q) k
theorem own_iand (X : Stand p l e R s m args below meth c T locs cells slots) (hx : p.tables.exec = Jvm.exec) (hby : c.code = bytes) {x y : Int32} (hd : decode bytes pc = .ok (.iand, 1)) (hp : pc + 1 = pc') (k : GoP p e below Φ (T.setTop (mkF m pc' Ls (.int (x &&& y) :: rest)))) : GoP p e below Φ (T.setTop (mkF m pc Ls (.int y :: .int x :: rest))) := by
  subst hp
  exact own_step (fun t q => XS.iand X.here hx rfl (hb hby hd) rfl q) k
theorem own_land (X : Stand p l e R s m args below meth c T locs cells slots) (hx : p.tables.exec = Jvm.exec) (hby : c.code = bytes) {x y : Int64} (hd : decode bytes pc = .ok (.land, 1)) (hp : pc + 1 = pc') (k : GoP p e below Φ (T.setTop (mkF m pc' Ls (.long (x &&& y) :: rest)))) : GoP p e below Φ (T.setTop (mkF m pc Ls (.long y :: .long x :: rest))) := by
  subst hp
  exact own_step (fun t q => XS.land X.here hx rfl (hb hby hd) rfl q) k
theorem own_ior (X : Stand p l e R s m args below meth c T locs cells slots) (hx : p.tables.exec = Jvm.exec) (hby : c.code = bytes) {x y : Int32} (hd : decode bytes pc = .ok (.ior, 1)) (hp : pc + 1 = pc') (k : GoP p e below Φ (T.setTop (mkF m pc' Ls (.int (x ||| y) :: rest)))) : GoP p e below Φ (T.setTop (mkF m pc Ls (.int y :: .int x :: rest))) := by
  subst hp
  exact own_step (fun t q => XS.ior X.here hx rfl (hb hby hd) rfl q) k
theorem own_lor (X : Stand p l e R s m args below meth c T locs cells slots) (hx : p.tables.exec = Jvm.exec) (hby : c.code = bytes) {x y : Int64} (hd : decode bytes pc = .ok (.lor, 1)) (hp : pc + 1 = pc') (k : GoP p e below Φ (T.setTop (mkF m pc' Ls (.long (x ||| y) :: rest)))) : GoP p e below Φ (T.setTop (mkF m pc Ls (.long y :: .long x :: rest))) := by
  subst hp
  exact own_step (fun t q => XS.lor X.here hx rfl (hb hby hd) rfl q) k
theorem own_ixor (X : Stand p l e R s m args below meth c T locs cells slots) (hx : p.tables.exec = Jvm.exec) (hby : c.code = bytes) {x y : Int32} (hd : decode bytes pc = .ok (.ixor, 1)) (hp : pc + 1 = pc') (k : GoP p e below Φ (T.setTop (mkF m pc' Ls (.int (x ^^^ y) :: rest)))) : GoP p e below Φ (T.setTop (mkF m pc Ls (.int y :: .int x :: rest))) := by
  subst hp
  exact own_step (fun t q => XS.ixor X.here hx rfl (hb hby hd) rfl q) k
theorem own_lxor (X : Stand p l e R s m args below meth c T locs cells slots) (hx : p.tables.exec = Jvm.exec) (hby : c.code = bytes) {x y : Int64} (hd : decode bytes pc = .ok (.lxor, 1)) (hp : pc + 1 = pc') (k : GoP p e below Φ (T.setTop (mkF m pc' Ls (.long (x ^^^ y) :: rest)))) : GoP p e below Φ (T.setTop (mkF m pc Ls (.long y :: .long x :: rest))) := by
  subst hp
  exact own_step (fun t q => XS.lxor X.here hx rfl (hb hby hd) rfl q) k
theorem own_ishl (X : Stand p l e R s m args below meth c T locs cells slots) (hx : p.tables.exec = Jvm.exec) (hby : c.code = bytes) {x : Int32} {y : Int32} (hd : decode bytes pc = .ok (.ishl, 1)) (hp : pc + 1 = pc') (k : GoP p e below Φ (T.setTop (mkF m pc' Ls (.int (x <<< (y &&& 31)) :: rest)))) : GoP p e below Φ (T.setTop (mkF m pc Ls (.int y :: .int x :: rest))) := by
  subst hp
  exact own_step (fun t q => XS.ishl X.here hx rfl (hb hby hd) rfl q) k
theorem own_ishr (X : Stand p l e R s m args below meth c T locs cells slots) (hx : p.tables.exec = Jvm.exec) (hby : c.code = bytes) {x : Int32} {y : Int32} (hd : decode bytes pc = .ok (.ishr, 1)) (hp : pc + 1 = pc') (k : GoP p e below Φ (T.setTop (mkF m pc' Ls (.int (x >>> (y &&& 31)) :: rest)))) : GoP p e below Φ (T.setTop (mkF m pc Ls (.int y :: .int x :: rest))) := by
  subst hp
  exact own_step (fun t q => XS.ishr X.here hx rfl (hb hby hd) rfl q) k
theorem own_iushr (X : Stand p l e R s m args below meth c T locs cells slots) (hx : p.tables.exec = Jvm.exec) (hby : c.code = bytes) {x : Int32} {y : Int32} (hd : decode bytes pc = .ok (.iushr, 1)) (hp : pc + 1 = pc') (k : GoP p e below Φ (T.setTop (mkF m pc' Ls (.int ((x.toUInt32 >>> (y &&& 31).toUInt32).toInt32) :: rest)))) : GoP p e below Φ (T.setTop (mkF m pc Ls (.int y :: .int x :: rest))) := by
  subst hp
  exact own_step (fun t q => XS.iushr X.here hx rfl (hb hby hd) rfl q) k
theorem own_lshl (X : Stand p l e R s m args below meth c T locs cells slots) (hx : p.tables.exec = Jvm.exec) (hby : c.code = bytes) {x : Int64} {y : Int32} (hd : decode bytes pc = .ok (.lshl, 1)) (hp : pc + 1 = pc') (k : GoP p e below Φ (T.setTop (mkF m pc' Ls (.long (x <<< (y &&& 0x3f).toInt64) :: rest)))) : GoP p e below Φ (T.setTop (mkF m pc Ls (.int y :: .long x :: rest))) := by
  subst hp
  exact own_step (fun t q => XS.lshl X.here hx rfl (hb hby hd) rfl q) k
theorem own_lshr (X : Stand p l e R s m args below meth c T locs cells slots) (hx : p.tables.exec = Jvm.exec) (hby : c.code = bytes) {x : Int64} {y : Int32} (hd : decode bytes pc = .ok (.lshr, 1)) (hp : pc + 1 = pc') (k : GoP p e below Φ (T.setTop (mkF m pc' Ls (.long (x >>> (y &&& 0x3f).toInt64) :: rest)))) : GoP p e below Φ (T.setTop (mkF m pc Ls (.int y :: .long x :: rest))) := by
  subst hp
  exact own_step (fun t q => XS.lshr X.here hx rfl (hb hby hd) rfl q) k
theorem own_lushr (X : Stand p l e R s m args below meth c T locs cells slots) (hx : p.tables.exec = Jvm.exec) (hby : c.code = bytes) {x : Int64} {y : Int32} (hd : decode bytes pc = .ok (.lushr, 1)) (hp : pc + 1 = pc') (k : GoP p e below Φ (T.setTop (mkF m pc' Ls (.long ((x.toUInt64 >>> (y &&& 0x3f).toInt64.toUInt64).toInt64) :: rest)))) : GoP p e below Φ (T.setTop (mkF m pc Ls (.int y :: .long x :: rest))) := by
  subst hp
  exact own_step (fun t q => XS.lushr X.here hx rfl (hb hby hd) rfl q) k
theorem own_ineg (X : Stand p l e R s m args below meth c T locs cells slots) (hx : p.tables.exec = Jvm.exec) (hby : c.code = bytes) {x : Int32} (hd : decode bytes pc = .ok (.ineg, 1)) (hp : pc + 1 = pc') (k : GoP p e below Φ (T.setTop (mkF m pc' Ls (.int (-x) :: rest)))) : GoP p e below Φ (T.setTop (mkF m pc Ls (.int x :: rest))) := by
  subst hp
  exact own_step (fun t q => XS.ineg X.here hx rfl (hb hby hd) rfl q) k
theorem own_lneg (X : Stand p l e R s m args below meth c T locs cells slots) (hx : p.tables.exec = Jvm.exec) (hby : c.code = bytes) {x : Int64} (hd : decode bytes pc = .ok (.lneg, 1)) (hp : pc + 1 = pc') (k : GoP p e below Φ (T.setTop (mkF m pc' Ls (.long (-x) :: rest)))) : GoP p e below Φ (T.setTop (mkF m pc Ls (.long x :: rest))) := by
  subst hp
  exact own_step (fun t q => XS.lneg X.here hx rfl (hb hby hd) rfl q) k
theorem own_i2l (X : Stand p l e R s m args below meth c T locs cells slots) (hx : p.tables.exec = Jvm.exec) (hby : c.code = bytes) {x : Int32} (hd : decode bytes pc = .ok (.i2l, 1)) (hp : pc + 1 = pc') (k : GoP p e below Φ (T.setTop (mkF m pc' Ls (.long (x.toInt64) :: rest)))) : GoP p e below Φ (T.setTop (mkF m pc Ls (.int x :: rest))) := by
  subst hp
  exact own_step (fun t q => XS.i2l X.here hx rfl (hb hby hd) rfl q) k
theorem own_l2i (X : Stand p l e R s m args below meth c T locs cells slots) (hx : p.tables.exec = Jvm.exec) (hby : c.code = bytes) {x : Int64} (hd : decode bytes pc = .ok (.l2i, 1)) (hp : pc + 1 = pc') (k : GoP p e below Φ (T.setTop (mkF m pc' Ls (.int (x.toInt32) :: rest)))) : GoP p e below Φ (T.setTop (mkF m pc Ls (.long x :: rest))) := by
  subst hp
  exact own_step (fun t q => XS.l2i X.here hx rfl (hb hby hd) rfl q) k
theorem own_i2b (X : Stand p l e R s m args below meth c T locs cells slots) (hx : p.tables.exec = Jvm.exec) (hby : c.code = bytes) {x : Int32} (hd : decode bytes pc = .ok (.i2b, 1)) (hp : pc + 1 = pc') (k : GoP p e below Φ (T.setTop (mkF m pc' Ls (.int (x.toInt8.toInt32) :: rest)))) : GoP p e below Φ (T.setTop (mkF m pc Ls (.int x :: rest))) := by
  subst hp
  exact own_step (fun t q => XS.i2b X.here hx rfl (hb hby hd) rfl q) k
theorem own_i2s (X : Stand p l e R s m args below meth c T locs cells slots) (hx : p.tables.exec = Jvm.exec) (hby : c.code = bytes) {x : Int32} (hd : decode bytes pc = .ok (.i2s, 1)) (hp : pc + 1 = pc') (k : GoP p e below Φ (T.setTop (mkF m pc' Ls (.int (x.toInt16.toInt32) :: rest)))) : GoP p e below Φ (T.setTop (mkF m pc Ls (.int x :: rest))) := by
  subst hp
  exact own_step (fun t q => XS.i2s X.here hx rfl (hb hby hd) rfl q) k
theorem own_i2c (X : Stand p l e R s m args below meth c T locs cells slots) (hx : p.tables.exec = Jvm.exec) (hby : c.code = bytes) {x : Int32} (hd : decode bytes pc = .ok (.i2c, 1)) (hp : pc + 1 = pc') (k : GoP p e below Φ (T.setTop (mkF m pc' Ls (.int (x.toUInt32.toUInt16.toUInt32.toInt32) :: rest)))) : GoP p e below Φ (T.setTop (mkF m pc Ls (.int x :: rest))) := by
  subst hp
  exact own_step (fun t q => XS.i2c X.here hx rfl (hb hby hd) rfl q) k
theorem own_irem (X : Stand p l e R s m args below meth c T locs cells slots) (hx : p.tables.exec = Jvm.exec) (hby : c.code = bytes) {x y : Int32} (hd : decode bytes pc = .ok (.irem, 1)) (hy : y ≠ 0) (hp : pc + 1 = pc') (k : GoP p e below Φ (T.setTop (mkF m pc' Ls (.int (x % y) :: rest)))) : GoP p e below Φ (T.setTop (mkF m pc Ls (.int y :: .int x :: rest))) := by
  subst hp
  exact own_step (fun t q => iremM X hx rfl (hb hby hd) rfl hy q) k
theorem own_idiv (X : Stand p l e R s m args below meth c T locs cells slots) (hx : p.tables.exec = Jvm.exec) (hby : c.code = bytes) {x y : Int32} (hd : decode bytes pc = .ok (.idiv, 1)) (hy : y ≠ 0) (hp : pc + 1 = pc') (k : GoP p e below Φ (T.setTop (mkF m pc' Ls (.int (x / y) :: rest)))) : GoP p e below Φ (T.setTop (mkF m pc Ls (.int y :: .int x :: rest))) := by
  subst hp
  exact own_step (fun t q => XS.idiv X.here hx rfl (hb hby hd) rfl hy q) k
theorem own_ldiv (X : Stand p l e R s m args below meth c T locs cells slots) (hx : p.tables.exec = Jvm.exec) (hby : c.code = bytes) {x y : Int64} (hd : decode bytes pc = .ok (.ldiv, 1)) (hy : y ≠ 0) (hp : pc + 1 = pc') (k : GoP p e below Φ (T.setTop (mkF m pc' Ls (.long (x / y) :: rest)))) : GoP p e below Φ (T.setTop (mkF m pc Ls (.long y :: .long x :: rest))) := by
  subst hp
  exact own_step (fun t q => XS.ldiv X.here hx rfl (hb hby hd) rfl hy q) k
theorem own_lrem (X : Stand p l e R s m args below meth c T locs cells slots) (hx : p.tables.exec = Jvm.exec) (hby : c.code = bytes) {x y : Int64} (hd : decode bytes pc = .ok (.lrem, 1)) (hy : y ≠ 0) (hp : pc + 1 = pc') (k : GoP p e below Φ (T.setTop (mkF m pc' Ls (.long (x % y) :: rest)))) : GoP p e below Φ (T.setTop (mkF m pc Ls (.long y :: .long x :: rest))) := by
  subst hp
  rw [← lrem_mod] at k
  exact own_step (fun t q => XS.lrem X.here hx rfl (hb hby hd) rfl hy q) k
theorem own_lcmp (X : Stand p l e R s m args below meth c T locs cells slots) (hx : p.tables.exec = Jvm.exec) (hby : c.code = bytes) {x y : Int64} (hd : decode bytes pc = .ok (.lcmp, 1)) (hp : pc + 1 = pc') (k : GoP p e below Φ (T.setTop (mkF m pc' Ls (.int (lcmpW x y) :: rest)))) : GoP p e below Φ (T.setTop (mkF m pc Ls (.long y :: .long x :: rest))) := by
  subst hp
  exact own_step (fun t q => XS.lcmp X.here hx rfl (hb hby hd) rfl q) k
theorem own_iconst (X : Stand p l e R s m args below meth c T locs cells slots) (hx : p.tables.exec = Jvm.exec) (hby : c.code = bytes) {i : Int} {v : Int32} (hd : decode bytes pc = .ok (.iconst i, 1)) (hv : Int32.ofInt i = v) (hp : pc + 1 = pc') (k : GoP p e below Φ (T.setTop (mkF m pc' Ls (.int v :: rest)))) : GoP p e below Φ (T.setTop (mkF m pc Ls (rest))) := by
  subst hp hv
  exact own_step (fun t q => XS.iconst X.here hx rfl (hb hby hd) q) k
theorem own_bipush (X : Stand p l e R s m args below meth c T locs cells slots) (hx : p.tables.exec = Jvm.exec) (hby : c.code = bytes) {i : Int} {v : Int32} (hd : decode bytes pc = .ok (.bipush i, 2)) (hv : (Int8.ofInt i).toInt32 = v) (hp : pc + 2 = pc') (k : GoP p e below Φ (T.setTop (mkF m pc' Ls (.int v :: rest)))) : GoP p e below Φ (T.setTop (mkF m pc Ls (rest))) := by
  subst hp hv
  exact own_step (fun t q => XS.bipush X.here hx rfl (hb hby hd) q) k
theorem own_sipush (X : Stand p l e R s m args below meth c T locs cells slots) (hx : p.tables.exec = Jvm.exec) (hby : c.code = bytes) {i : Int} {v : Int32} (hd : decode bytes pc = .ok (.sipush i, 3)) (hv : (Int16.ofInt i).toInt32 = v) (hp : pc + 3 = pc') (k : GoP p e below Φ (T.setTop (mkF m pc' Ls (.int v :: rest)))) : GoP p e below Φ (T.setTop (mkF m pc Ls (rest))) := by
  subst hp hv
  exact own_step (fun t q => XS.sipush X.here hx rfl (hb hby hd) q) k
theorem own_lconst (X : Stand p l e R s m args below meth c T locs cells slots) (hx : p.tables.exec = Jvm.exec) (hby : c.code = bytes) {i : Fin 2} {v : Int64} (hd : decode bytes pc = .ok (.lconst i, 1)) (hv : Int64.ofNat i = v) (hp : pc + 1 = pc') (k : GoP p e below Φ (T.setTop (mkF m pc' Ls (.long v :: rest)))) : GoP p e below Φ (T.setTop (mkF m pc Ls (rest))) := by
  subst hp hv
  exact own_step (fun t q => XS.lconst X.here hx rfl (hb hby hd) q) k
theorem own_aconst_null (X : Stand p l e R s m args below meth c T locs cells slots) (hx : p.tables.exec = Jvm.exec) (hby : c.code = bytes) (hd : decode bytes pc = .ok (.aconst_null, 1)) (hp : pc + 1 = pc') (k : GoP p e below Φ (T.setTop (mkF m pc' Ls (.null :: rest)))) : GoP p e below Φ (T.setTop (mkF m pc Ls (rest))) := by
  subst hp
  exact own_step (fun t q => XS.aconstNull X.here hx rfl (hb hby hd) q) k
theorem own_dup (X : Stand p l e R s m args below meth c T locs cells slots) (hx : p.tables.exec = Jvm.exec) (hby : c.code = bytes) {x : Value} (hd : decode bytes pc = .ok (.dup, 1)) (hc : x.category = 1) (hp : pc + 1 = pc') (k : GoP p e below Φ (T.setTop (mkF m pc' Ls (x :: x :: rest)))) : GoP p e below Φ (T.setTop (mkF m pc Ls (x :: rest))) := by
  subst hp
  exact own_step (fun t q => XS.dup X.here hx rfl (hb hby hd) rfl hc q) k
theorem own_pop (X : Stand p l e R s m args below meth c T locs cells slots) (hx : p.tables.exec = Jvm.exec) (hby : c.code = bytes) {x : Value} (hd : decode bytes pc = .ok (.pop, 1)) (hc : x.category = 1) (hp : pc + 1 = pc') (k : GoP p e below Φ (T.setTop (mkF m pc' Ls (rest)))) : GoP p e below Φ (T.setTop (mkF m pc Ls (x :: rest))) := by
  subst hp
  exact own_step (fun t q => XS.pop X.here hx rfl (hb hby hd) rfl hc q) k
theorem own_dup_x1 (X : Stand p l e R s m args below meth c T locs cells slots) (hx : p.tables.exec = Jvm.exec) (hby : c.code = bytes) {x y : Value} (hd : decode bytes pc = .ok (.dup_x1, 1)) (hc : x.category = 1) (hc' : y.category = 1) (hp : pc + 1 = pc') (k : GoP p e below Φ (T.setTop (mkF m pc' Ls (x :: y :: x :: rest)))) : GoP p e below Φ (T.setTop (mkF m pc Ls (x :: y :: rest))) := by
  subst hp
  exact own_step (fun t q => XS.dupX1 X.here hx rfl (hb hby hd) rfl hc hc' q) k
theorem own_dup2 (X : Stand p l e R s m args below meth c T locs cells slots) (hx : p.tables.exec = Jvm.exec) (hby : c.code = bytes) {x y : Value} (hd : decode bytes pc = .ok (.dup2, 1)) (hc : x.category = 1) (hc' : y.category = 1) (hp : pc + 1 = pc') (k : GoP p e below Φ (T.setTop (mkF m pc' Ls (x :: y :: x :: y :: rest)))) : GoP p e below Φ (T.setTop (mkF m pc Ls (x :: y :: rest))) := by
  subst hp
  exact own_step (fun t q => XT.dup2 X.here hx rfl (hb hby hd) rfl hc hc' q) k
theorem own_dup2L (X : Stand p l e R s m args below meth c T locs cells slots) (hx : p.tables.exec = Jvm.exec) (hby : c.code = bytes) {x : Int64} (hd : decode bytes pc = .ok (.dup2, 1)) (hp : pc + 1 = pc') (k : GoP p e below Φ (T.setTop (mkF m pc' Ls (.long x :: .long x :: rest)))) : GoP p e below Φ (T.setTop (mkF m pc Ls (.long x :: rest))) := by
  subst hp
  exact own_step (fun t q => XT.dup2L X.here hx rfl (hb hby hd) rfl q) k
theorem own_iinc (X : Stand p l e R s m args below meth c T locs cells slots) (hx : p.tables.exec = Jvm.exec) (hby : c.code = bytes) {k0 : Nat} {i : Int} {x v : Int32} (hd : decode bytes pc = .ok (.iinc k0 i, 3)) (hl : Ls[k0]? = some (.val (.int x))) (hv : Int32.ofInt i = v) (hl' : storeLocals Ls k0 (.int (x + v)) = some Ls') (hp : pc + 3 = pc') (k : GoP p e below Φ (T.setTop (mkF m pc' Ls' (rest)))) : GoP p e below Φ (T.setTop (mkF m pc Ls (rest))) := by
  subst hp hv
  exact own_step (fun t q => XS.iinc X.here hx rfl (hb hby hd) hl hl' q) k
theorem own_goto (X : Stand p l e R s m args below meth c T locs cells slots) (hx : p.tables.exec = Jvm.exec) (hby : c.code = bytes) {o : Int} (hd : decode bytes pc = .ok (.goto o, 3)) (ho : 0 ≤ (pc : Int) + o) (hp : ((pc : Int) + o).toNat = pc') (k : GoP p e below Φ (T.setTop (mkF m pc' Ls (rest)))) : GoP p e below Φ (T.setTop (mkF m pc Ls (rest))) :=
  own_step (fun t q => XS.goto X.here hx rfl (pc0 := pc) (pc' := pc') rfl (hb hby hd) ho hp q) k
theorem own_ifY (X : Stand p l e R s m args below meth c T locs cells slots) (hx : p.tables.exec = Jvm.exec) (hby : c.code = bytes) {cd : ClassFile.Cond} {o : Int} {x : Int32} (hd : decode bytes pc = .ok (.ifCond cd o, 3)) (hc : ifCond.holds cd x = true) (ho : 0 ≤ (pc : Int) + o) (hp : ((pc : Int) + o).toNat = pc') (k : GoP p e below Φ (T.setTop (mkF m pc' Ls (rest)))) : GoP p e below Φ (T.setTop (mkF m pc Ls (.int x :: rest))) :=
  own_step (fun t q => XS.ifYes X.here hx rfl (pc0 := pc) (pc' := pc') rfl (hb hby hd) rfl hc ho hp q) k
theorem own_ifN (X : Stand p l e R s m args below meth c T locs cells slots) (hx : p.tables.exec = Jvm.exec) (hby : c.code = bytes) {cd : ClassFile.Cond} {o : Int} {x : Int32} (hd : decode bytes pc = .ok (.ifCond cd o, 3)) (hc : ifCond.holds cd x = false) (hp : pc + 3 = pc') (k : GoP p e below Φ (T.setTop (mkF m pc' Ls (rest)))) : GoP p e below Φ (T.setTop (mkF m pc Ls (.int x :: rest))) := by
  subst hp
  exact own_step (fun t q => XS.ifNo X.here hx rfl (hb hby hd) rfl hc q) k
theorem own_icmpY (X : Stand p l e R s m args below meth c T locs cells slots) (hx : p.tables.exec = Jvm.exec) (hby : c.code = bytes) {cd : ClassFile.Cond} {o : Int} {x y : Int32} (hd : decode bytes pc = .ok (.if_icmp cd o, 3)) (hc : if_icmp.holds cd x y = true) (ho : 0 ≤ (pc : Int) + o) (hp : ((pc : Int) + o).toNat = pc') (k : GoP p e below Φ (T.setTop (mkF m pc' Ls (rest)))) : GoP p e below Φ (T.setTop (mkF m pc Ls (.int y :: .int x :: rest))) :=
  own_step (fun t q => XS.icmpYes X.here hx rfl (pc0 := pc) (pc' := pc') rfl (hb hby hd) rfl hc ho hp q) k
theorem own_icmpN (X : Stand p l e R s m args below meth c T locs cells slots) (hx : p.tables.exec = Jvm.exec) (hby : c.code = bytes) {cd : ClassFile.Cond} {o : Int} {x y : Int32} (hd : decode bytes pc = .ok (.if_icmp cd o, 3)) (hc : if_icmp.holds cd x y = false) (hp : pc + 3 = pc') (k : GoP p e below Φ (T.setTop (mkF m pc' Ls (rest)))) : GoP p e below Φ (T.setTop (mkF m pc Ls (.int y :: .int x :: rest))) := by
  subst hp
  exact own_step (fun t q => XS.icmpNo X.here hx rfl (hb hby hd) rfl hc q) k
theorem own_ifnullY (X : Stand p l e R s m args below meth c T locs cells slots) (hx : p.tables.exec = Jvm.exec) (hby : c.code = bytes) {o : Int} (hd : decode bytes pc = .ok (.ifnull o, 3)) (ho : 0 ≤ (pc : Int) + o) (hp : ((pc : Int) + o).toNat = pc') (k : GoP p e below Φ (T.setTop (mkF m pc' Ls (rest)))) : GoP p e below Φ (T.setTop (mkF m pc Ls (.null :: rest))) :=
  own_step (fun t q => XS.ifnullYes X.here hx rfl (pc0 := pc) (pc' := pc') rfl (hb hby hd) rfl ho hp q) k
theorem own_ifnullN (X : Stand p l e R s m args below meth c T locs cells slots) (hx : p.tables.exec = Jvm.exec) (hby : c.code = bytes) {o : Int} {b : Addr} (hd : decode bytes pc = .ok (.ifnull o, 3)) (hp : pc + 3 = pc') (k : GoP p e below Φ (T.setTop (mkF m pc' Ls (rest)))) : GoP p e below Φ (T.setTop (mkF m pc Ls (.ref b :: rest))) := by
  subst hp
  exact own_step (fun t q => XS.ifnullNo X.here hx rfl (hb hby hd) rfl q) k
theorem own_ifnonnullY (X : Stand p l e R s m args below meth c T locs cells slots) (hx : p.tables.exec = Jvm.exec) (hby : c.code = bytes) {b : Addr} {o : Int} (hd : decode bytes pc = .ok (.ifnonnull o, 3)) (ho : 0 ≤ (pc : Int) + o) (hp : ((pc : Int) + o).toNat = pc') (k : GoP p e below Φ (T.setTop (mkF m pc' Ls (rest)))) : GoP p e below Φ (T.setTop (mkF m pc Ls (.ref b :: rest))) :=
  own_step (fun t q => XS.ifnonnullYes X.here hx rfl (pc0 := pc) (pc' := pc') rfl (hb hby hd) rfl ho hp q) k
theorem own_ifnonnullN (X : Stand p l e R s m args below meth c T locs cells slots) (hx : p.tables.exec = Jvm.exec) (hby : c.code = bytes) {o : Int} (hd : decode bytes pc = .ok (.ifnonnull o, 3)) (hp : pc + 3 = pc') (k : GoP p e below Φ (T.setTop (mkF m pc' Ls (rest)))) : GoP p e below Φ (T.setTop (mkF m pc Ls (.null :: rest))) := by
  subst hp
  exact own_step (fun t q => XS.ifnonnullNo X.here hx rfl (hb hby hd) rfl q) k
theorem own_acmp (X : Stand p l e R s m args below meth c T locs cells slots) (hx : p.tables.exec = Jvm.exec) (hby : c.code = bytes) {cd : ACond} {x y : Value} {o : Int} (hd : decode bytes pc = .ok (.if_acmp cd o, 3)) (h1 : x.isRef = true) (h2 : y.isRef = true) {same : Bool} (hq : decide (x = y) = same) (ho : 0 ≤ (pc : Int) + o) (hp : pc' = if acV cd same = true then ((pc : Int) + o).toNat else pc + 3) (k : GoP p e below Φ (T.setTop (mkF m pc' Ls (rest)))) : GoP p e below Φ (T.setTop (mkF m pc Ls (y :: x :: rest))) :=
  own_step (fun t q => Jvm.RoadKit.acmp (g := mkF m pc Ls (y :: x :: rest)) X hx rfl h1 h2 (pc0 := pc) (pc' := pc') (same := same) rfl (hb hby hd) rfl hq ho hp q) k
theorem own_ldcI (X : Stand p l e R s m args below meth c T locs cells slots) (hx : p.tables.exec = Jvm.exec) (hby : c.code = bytes) (hZ : Z.Warmed39 s.vm) {own : String} {i : Nat} {v : Int32} (hown : s.vm.findClass own = some m.cls) (w : (Jvm.Cond.constant own i v).before a0 Z = true) (hd : decode bytes pc = .ok (.ldc i, 2)) (hp : pc + 2 = pc') (k : GoP p e below Φ (T.setTop (mkF m pc' Ls (.int v :: rest)))) : GoP p e below Φ (T.setTop (mkF m pc Ls (rest))) := by
  subst hp
  exact own_step (fun t q => Jvm.Stand.ldcI X hx hown (mvT hZ w) rfl (hb hby hd) q) k
theorem own_ldcWI (X : Stand p l e R s m args below meth c T locs cells slots) (hx : p.tables.exec = Jvm.exec) (hby : c.code = bytes) (hZ : Z.Warmed39 s.vm) {own : String} {i : Nat} {v : Int32} (hown : s.vm.findClass own = some m.cls) (w : (Jvm.Cond.constant own i v).before a0 Z = true) (hd : decode bytes pc = .ok (.ldc_w i, 3)) (hp : pc + 3 = pc') (k : GoP p e below Φ (T.setTop (mkF m pc' Ls (.int v :: rest)))) : GoP p e below Φ (T.setTop (mkF m pc Ls (rest))) := by
  subst hp
  exact own_step (fun t q => Jvm.Stand.ldcWI X hx hown (mvT hZ w) rfl (hb hby hd) q) k
theorem own_ldc2J (X : Stand p l e R s m args below meth c T locs cells slots) (hx : p.tables.exec = Jvm.exec) (hby : c.code = bytes) (hZ : Z.Warmed39 s.vm) {own : String} {i : Nat} {v : Int64} (hown : s.vm.findClass own = some m.cls) (w : (Jvm.Cond.constantLong own i v).before a0 Z = true) (hd : decode bytes pc = .ok (.ldc2_w i, 3)) (hp : pc + 3 = pc') (k : GoP p e below Φ (T.setTop (mkF m pc' Ls (.long v :: rest)))) : GoP p e below Φ (T.setTop (mkF m pc Ls (rest))) := by
  subst hp
  exact own_step (fun t q => Jvm.Stand.ldc2J X hx hown (mvT hZ w) rfl (hb hby hd) q) k
/-- a contract of one body at one heap: with these arguments it returns, and Q says what it leaves -/
def Con (l : Launch) (Z : State) (y : MethodName) (bytes : ByteArray) (maxL : Nat) (ret : Option FieldType) (ws : List Jvm.Cond) (rm : Room) (as' : Array Value) (h0 : Heap) (Q : Option Value → Heap → List Loc → Prop) : Prop :=
  MetFree l y (head1 (Jvm.Cond.code y bytes maxL ret :: ws) rm) (fun a U => a = as' ∧ Z.Warmed39 U.vm ∧ U.heap = h0) (fun _ _ _ _ _ => True) (fun _ U o U' => ∃ v L, o = .returned v ∧ Q v U'.heap L ∧ FrameEnd U o U' L rm.cells rm.slots)
/-- where a body may end: at a state that stands, with a value that Q takes -/
def Fin (p : Program) (l : Launch) (e : Env) (R : Room) (s : State) (m : MethodId) (args : Array Value) (below : List Frame) (meth : Method) (c : Code) (Q : Option Value → Heap → List Loc → Prop) (Φ : State → Prop) : Prop :=
  ∀ (T : State) (locs : List Loc) (cells slots : Nat) (v : Option Value), Stand p l e R s m args below meth c T locs cells slots → (meth.sig.returnType = none → v = none) → Q v T.heap locs → cells ≤ R.cells → slots ≤ R.slots →
    ∃ fs, (∀ (f : JFrame) (acts : List Action), f.method = m → f.locked = none → f.entered = [] → (doReturn e (T.setTop f) acts v).1 = T.setFrames fs) ∧ Φ (T.setFrames fs)
theorem Con.of {y : MethodName} {maxL : Nat} {ret : Option FieldType} {ws : List Jvm.Cond} {rm : Room} {as' : Array Value} {h0 : Heap} {Q : Option Value → Heap → List Loc → Prop} (hpn : plainName y.cls = true)
    (body : ∀ (p : Program) (e : Env) (s : State) (m : MethodId) (below : List Frame) (meth : Method) (c : Code) (T : State), Stand p l e rm s m as' below meth c T [] 0 0 → p.tables.exec = Jvm.exec → c.code = bytes → c.maxLocals = maxL → s.vm.findClass y.cls = some m.cls → meth.name = y.name → meth.sig.returnType = ret → T.heap = h0 → Z.Warmed39 s.vm → s.heap = h0 →
      ∀ Φ : State → Prop, Fin p l e rm s m as' below meth c Q Φ → GoP p e below Φ (T.setTop (entryFrame m as' maxL))) : Con l Z y bytes maxL ret ws rm as' h0 Q := by
  refine MetFree.of_bodySF (plainFor_of_name hpn) hisR ?_
  intro p e s m args below meth c s₁ Bd hml0 hP hK
  obtain ⟨rfl, hZ, hh⟩ := hP
  have e0 : s₁.heap = h0 := by rw [← hh, Bd.state]; rfl
  have hlk : meth.locks = false := Bd.notSynchronized
  obtain ⟨t, h1, o, h2⟩ := body p e s m below meth c s₁ (Stand.of_body Bd) Bd.exec Bd.bytes hml0 (findClass_of_methodNamed Bd.named) (name_of_methodNamed Bd.named Bd.method).1 Bd.returns e0 hZ hh
    (fun t => ∃ o, t.status = .running ∧ Ended t below o ∧ ∃ v L, o = .returned v ∧ Q v t.heap L ∧ FrameEnd s o t L rm.cells rm.slots)
    (fun T locs cells slots v X hv hQ hc hs => by
      obtain ⟨fs, hr, hrun, hended, hW, hsame⟩ := X.leave (v := v) hv hlk
      exact ⟨fs, hr, _, hrun, hended, v, locs, rfl, hQ, ⟨_, rfl⟩, hW, hsame.mono hc hs⟩)
  exact ⟨t, o, h1, h2⟩
theorem own_retV (X : Stand p l e R s m args below meth c T locs cells slots) (hx : p.tables.exec = Jvm.exec) (hby : c.code = bytes) {Q : Option Value → Heap → List Loc → Prop} (fin : Fin p l e R s m args below meth c Q Φ) {t : FieldType} (hret : meth.sig.returnType = some t) {w : Value} {i : Instr} (hn : narrow t w = w)
    (hi : (i = .ireturn ∧ (t = .int ∨ t = .boolean ∨ t = .byte ∨ t = .char ∨ t = .short) ∧ ∃ z, w = .int z) ∨ (i = .lreturn ∧ t = .long ∧ ∃ z, w = .long z) ∨ (i = .dreturn ∧ t = .double ∧ ∃ z, w = .double z) ∨ (i = .freturn ∧ t = .float ∧ ∃ z, w = .float z) ∨ (i = .areturn ∧ t.isReference = true ∧ w.isRef = true))
    (hd : decode bytes pc = .ok (i, 1)) (hc : cells ≤ R.cells) (hs : slots ≤ R.slots) (hQ : Q (some w) T.heap locs) : GoP p e below Φ (T.setTop (mkF m pc Ls (w :: rest))) := by
  obtain ⟨fs, hr, hΦ⟩ := fin _ _ _ _ (some w) X (fun q => by rw [hret] at q; cases q) hQ hc hs
  exact ⟨_, retOut X hx hret hn hi (hb hby hd) hr, hΦ⟩
theorem own_retI (X : Stand p l e R s m args below meth c T locs cells slots) (hx : p.tables.exec = Jvm.exec) (hby : c.code = bytes) {Q : Option Value → Heap → List Loc → Prop} (fin : Fin p l e R s m args below meth c Q Φ) (hret : meth.sig.returnType = some .int) {z : Int32} (hd : decode bytes pc = .ok (.ireturn, 1)) (hc : cells ≤ R.cells) (hs : slots ≤ R.slots) (hQ : Q (some (.int z)) T.heap locs) : GoP p e below Φ (T.setTop (mkF m pc Ls (.int z :: rest))) :=
  own_retV X hx hby fin hret rfl (Or.inl ⟨rfl, Or.inl rfl, z, rfl⟩) hd hc hs hQ
theorem own_retN (X : Stand p l e R s m args below meth c T locs cells slots) (hx : p.tables.exec = Jvm.exec) (hby : c.code = bytes) {Q : Option Value → Heap → List Loc → Prop} (fin : Fin p l e R s m args below meth c Q Φ) {t : FieldType} (hret : meth.sig.returnType = some t) (ht : t = .int ∨ t = .boolean ∨ t = .byte ∨ t = .char ∨ t = .short) {z : Int32} (hn : narrow t (.int z) = .int z) (hd : decode bytes pc = .ok (.ireturn, 1)) (hc : cells ≤ R.cells) (hs : slots ≤ R.slots) (hQ : Q (some (.int z)) T.heap locs) : GoP p e below Φ (T.setTop (mkF m pc Ls (.int z :: rest))) :=
  own_retV X hx hby fin hret hn (Or.inl ⟨rfl, ht, z, rfl⟩) hd hc hs hQ
theorem own_retJ (X : Stand p l e R s m args below meth c T locs cells slots) (hx : p.tables.exec = Jvm.exec) (hby : c.code = bytes) {Q : Option Value → Heap → List Loc → Prop} (fin : Fin p l e R s m args below meth c Q Φ) (hret : meth.sig.returnType = some .long) {z : Int64} (hd : decode bytes pc = .ok (.lreturn, 1)) (hc : cells ≤ R.cells) (hs : slots ≤ R.slots) (hQ : Q (some (.long z)) T.heap locs) : GoP p e below Φ (T.setTop (mkF m pc Ls (.long z :: rest))) :=
  own_retV X hx hby fin hret rfl (Or.inr (Or.inl ⟨rfl, rfl, z, rfl⟩)) hd hc hs hQ
theorem own_retA (X : Stand p l e R s m args below meth c T locs cells slots) (hx : p.tables.exec = Jvm.exec) (hby : c.code = bytes) {Q : Option Value → Heap → List Loc → Prop} (fin : Fin p l e R s m args below meth c Q Φ) {t : FieldType} (hret : meth.sig.returnType = some t) (ht : t.isReference = true) {w : Value} (hw : w.isRef = true) (hn : narrow t w = w) (hd : decode bytes pc = .ok (.areturn, 1)) (hc : cells ≤ R.cells) (hs : slots ≤ R.slots) (hQ : Q (some w) T.heap locs) : GoP p e below Φ (T.setTop (mkF m pc Ls (w :: rest))) :=
  own_retV X hx hby fin hret hn (Or.inr (Or.inr (Or.inr (Or.inr ⟨rfl, ht, hw⟩)))) hd hc hs hQ
theorem own_ret0 (X : Stand p l e R s m args below meth c T locs cells slots) (hx : p.tables.exec = Jvm.exec) (hby : c.code = bytes) {Q : Option Value → Heap → List Loc → Prop} (fin : Fin p l e R s m args below meth c Q Φ) (hret : meth.sig.returnType = none) (hd : decode bytes pc = .ok (.return_, 1)) (hc : cells ≤ R.cells) (hs : slots ≤ R.slots) (hQ : Q none T.heap locs) : GoP p e below Φ (T.setTop (mkF m pc Ls ([]))) := by
  obtain ⟨fs, hr, hΦ⟩ := fin _ _ _ _ none X (fun _ => rfl) hQ hc hs
  exact ⟨_, X.returnOut hx hret (hb hby hd) hr, hΦ⟩
theorem own_callS (X : Stand p l e R s m args below meth c T locs cells slots) (hx : p.tables.exec = Jvm.exec) (hby : c.code = bytes) (hZ : Z.Warmed39 s.vm) (hml : Ls.size = c.maxLocals) {own : String} {index : Nat} {y : MethodName} (hown : s.vm.findClass own = some m.cls) (w1 : (Jvm.Cond.methodLink own index y).before a0 Z = true) (w2 : (Jvm.Cond.static y).before a0 Z = true) (w3 : (Jvm.Cond.initialized y.cls).before a0 Z = true) {bytes' : ByteArray} {maxL : Nat} {ret : Option FieldType} (w4 : (Jvm.Cond.code y bytes' maxL ret).before a0 Z = true) (hy : y.cls ≠ "java/lang/invoke/MethodHandle" ∧ y.cls ≠ "java/lang/invoke/VarHandle") {rm : Room} {Q : Option Value → Heap → List Loc → Prop} (eT : T.heap = h) (W : Nat) (hf : rm.frames + 1 ≤ R.frames) (hl : W + (maxL + 11) + rm.locals ≤ R.locals) (hc : cells + rm.cells ≤ R.cells) (hs : slots + rm.slots ≤ R.slots) {argsL rest : List Value} {st : List Value} (hlen : ∀ sig, parseMethodDescriptor y.desc = some sig → argsL.length = sig.parameters.length) (hst : st = argsL.reverse ++ rest) (hM : Con l Z y bytes' maxL ret [] rm argsL.toArray h Q) (hW : (rest.map fun v => v.category).sum ≤ W) (hd : decode bytes pc = .ok (.invokestatic index, 3)) (hp : pc + 3 = pc') (k : ∀ (v : Option Value) (T' : State) (L : List Loc), Stand p l e R s m args below meth c T' (locs ++ L) (cells + rm.cells) (slots + rm.slots) → Q v T'.heap L → GoP p e below Φ (T'.setTop (mkF m pc' Ls (v.toList ++ rest)))) : GoP p e below Φ (T.setTop (mkF m pc Ls st)) := by
  obtain ⟨v, _, ⟨T', L', k', n'⟩, -, X', ⟨L, hQ, l1, y1, z1⟩, st'⟩ := Jvm.LawKit.callS X hx (y := y) hown (mvT hZ w1) (mvT hZ w2) (mvT hZ w3) (mvT hZ w4) hy (backOf (W := W) hM hZ w4 w3 hf hl) (g := mkF m pc Ls st) rfl hml (argsL := argsL) (rest := rest) hlen hst (by show 2 * 0 + _ ≤ _; omega) (hb hby hd) (fun _ _ => ⟨rfl, eT, hc, hs⟩)
  dsimp only [Pt.U, Pt.locs, Pt.cells, Pt.slots] at X' l1 y1 z1 st' hQ
  subst l1 y1 z1 hp
  exact own_step st' (k _ _ _ X' hQ)
theorem own_callI (X : Stand p l e R s m args below meth c T locs cells slots) (hx : p.tables.exec = Jvm.exec) (hby : c.code = bytes) (hZ : Z.Warmed39 s.vm) (hml : Ls.size = c.maxLocals) {own : String} {index : Nat} {y : MethodName} (hown : s.vm.findClass own = some m.cls) {a : Addr} (hn : y.name = "<init>") (w1 : (Jvm.Cond.methodLink own index y).before a0 Z = true) (w2 : (Jvm.Cond.instanceMethod y).before a0 Z = true) (w3 : (Jvm.Cond.initialized y.cls).before a0 Z = true) {bytes' : ByteArray} {maxL : Nat} (w4 : (Jvm.Cond.code y bytes' maxL none).before a0 Z = true) (hy : y.cls ≠ "java/lang/invoke/MethodHandle" ∧ y.cls ≠ "java/lang/invoke/VarHandle") {rm : Room} {Q : Option Value → Heap → List Loc → Prop} (eT : T.heap = h) (W : Nat) (hf : rm.frames + 1 ≤ R.frames) (hl : W + (maxL + 11) + rm.locals ≤ R.locals) (hc : cells + rm.cells ≤ R.cells) (hs : slots + rm.slots ≤ R.slots) {argsL rest : List Value} {st : List Value} (hlen : ∀ sig, parseMethodDescriptor y.desc = some sig → argsL.length = sig.parameters.length) (hst : st = argsL.reverse ++ .ref a :: rest) (hW : (rest.map fun v => v.category).sum ≤ W) (hM : Con l Z y bytes' maxL none [] rm (.ref a :: argsL).toArray h Q) (hd : decode bytes pc = .ok (.invokespecial index, 3)) (hp : pc + 3 = pc') (k : ∀ (v : Option Value) (T' : State) (L : List Loc), Stand p l e R s m args below meth c T' (locs ++ L) (cells + rm.cells) (slots + rm.slots) → Q v T'.heap L → GoP p e below Φ (T'.setTop (mkF m pc' Ls (v.toList ++ rest)))) : GoP p e below Φ (T.setTop (mkF m pc Ls st)) := by
  obtain ⟨v, _, ⟨T', L', k', n'⟩, -, X', ⟨L, hQ, l1, y1, z1⟩, st'⟩ := X.specialBack hx (y := y) hn hown (mvT hZ w1) (mvT hZ w2) (mvT hZ w4) hy (backOf (W := W) hM hZ w4 w3 hf hl) (g := mkF m pc Ls st) rfl hml (Steps.refl _) (a := a) (argsL := argsL) (rest := rest) hlen hst (by show 2 * 0 + _ ≤ _; omega) (hb hby hd) (fun _ _ => ⟨rfl, eT, hc, hs⟩)
  dsimp only [Pt.U, Pt.locs, Pt.cells, Pt.slots] at X' l1 y1 z1 st' hQ
  subst l1 y1 z1 hp
  exact own_trans st' (k _ _ _ X' hQ)
theorem own_callV (X : Stand p l e R s m args below meth c T locs cells slots) (hx : p.tables.exec = Jvm.exec) (hby : c.code = bytes) (hZ : Z.Warmed39 s.vm) (hml : Ls.size = c.maxLocals) {own : String} {index : Nat} {y : MethodName} (hown : s.vm.findClass own = some m.cls) {C : String} {b : Addr} (w1 : (Jvm.Cond.methodLink own index y).before a0 Z = true) (w2 : (Jvm.Cond.declares y).before a0 Z = true) (w5 : (Jvm.Cond.selects C y y).before a0 Z = true) (w6 : (Jvm.Cond.instanceMethod y).before a0 Z = true) (w3 : (Jvm.Cond.initialized y.cls).before a0 Z = true) {bytes' : ByteArray} {maxL : Nat} {ret : Option FieldType} (w4 : (Jvm.Cond.code y bytes' maxL ret).before a0 Z = true) (hy : y.cls ≠ "java/lang/invoke/MethodHandle" ∧ y.cls ≠ "java/lang/invoke/VarHandle") {rm : Room} {Q : Option Value → Heap → List Loc → Prop} (eT : T.heap = h) (W : Nat) (hf : rm.frames + 1 ≤ R.frames) (hl : W + (maxL + 11) + rm.locals ≤ R.locals) (hc : cells + rm.cells ≤ R.cells) (hs : slots + rm.slots ≤ R.slots) {argsL rest : List Value} {st : List Value} (hlen : ∀ sig, parseMethodDescriptor y.desc = some sig → argsL.length = sig.parameters.length) (hst : st = argsL.reverse ++ .ref b :: rest) (hW : (rest.map fun v => v.category).sum ≤ W) (E : Exa Z h b C) (hM : Con l Z y bytes' maxL ret [] rm (.ref b :: argsL).toArray h Q) (hd : decode bytes pc = .ok (.invokevirtual index, 3)) (hp : pc + 3 = pc') (k : ∀ (v : Option Value) (T' : State) (L : List Loc), Stand p l e R s m args below meth c T' (locs ++ L) (cells + rm.cells) (slots + rm.slots) → Q v T'.heap L → GoP p e below Φ (T'.setTop (mkF m pc' Ls (v.toList ++ rest)))) : GoP p e below Φ (T.setTop (mkF m pc Ls st)) := by
  obtain ⟨cq, kq, qa, qb, qc⟩ := isOf hZ eT E
  obtain ⟨v, _, ⟨T', L', k', n'⟩, -, X', ⟨L, hQ, l1, y1, z1⟩, st'⟩ := X.virtualBack hx (y := y) (z := y) hown (mvT hZ w1) (mvT hZ w2) (notFace_of_selects (args := #[]) (mvT hZ w5)) (mvT hZ w5) (mvT hZ w6) hy (backOf (W := W) hM hZ w4 w3 hf hl) qa qc (g := mkF m pc Ls st) rfl hml (Steps.refl _) (argsL := argsL) (rest := rest) hlen hst (by show 2 * 0 + _ ≤ _; omega) (hb hby hd) (fun _ _ => ⟨rfl, eT, hc, hs⟩)
  dsimp only [Pt.U, Pt.locs, Pt.cells, Pt.slots] at X' l1 y1 z1 st' hQ
  subst l1 y1 z1 hp
  exact own_trans st' (k _ _ _ X' hQ)
theorem own_callU (X : Stand p l e R s m args below meth c T locs cells slots) (hx : p.tables.exec = Jvm.exec) (hby : c.code = bytes) (hZ : Z.Warmed39 s.vm) (hml : Ls.size = c.maxLocals) {own : String} {index : Nat} {x0 y : MethodName} (hown : s.vm.findClass own = some m.cls) {C owner : String} {b : Addr} (w1 : (Jvm.Cond.methodLink own index x0).before a0 Z = true) (ws : (Jvm.Cond.sameMethod x0.cls owner x0.name x0.desc).before a0 Z = true) (w2 : (Jvm.Cond.declares ⟨owner, x0.name, x0.desc⟩).before a0 Z = true) (w5 : (Jvm.Cond.selects C x0 y).before a0 Z = true) (w6 : (Jvm.Cond.instanceMethod y).before a0 Z = true) (w3 : (Jvm.Cond.initialized y.cls).before a0 Z = true) {bytes' : ByteArray} {maxL : Nat} {ret : Option FieldType} (w4 : (Jvm.Cond.code y bytes' maxL ret).before a0 Z = true) (hy : owner ≠ "java/lang/invoke/MethodHandle" ∧ owner ≠ "java/lang/invoke/VarHandle") {rm : Room} {Q : Option Value → Heap → List Loc → Prop} (eT : T.heap = h) (W : Nat) (hf : rm.frames + 1 ≤ R.frames) (hl : W + (maxL + 11) + rm.locals ≤ R.locals) (hc : cells + rm.cells ≤ R.cells) (hs : slots + rm.slots ≤ R.slots) {argsL rest : List Value} {st : List Value} (hlen : ∀ sig, parseMethodDescriptor x0.desc = some sig → argsL.length = sig.parameters.length) (hst : st = argsL.reverse ++ .ref b :: rest) (hW : (rest.map fun v => v.category).sum ≤ W) (E : Exa Z h b C) (hM : Con l Z y bytes' maxL ret [] rm (.ref b :: argsL).toArray h Q) (hd : decode bytes pc = .ok (.invokevirtual index, 3)) (hp : pc + 3 = pc') (k : ∀ (v : Option Value) (T' : State) (L : List Loc), Stand p l e R s m args below meth c T' (locs ++ L) (cells + rm.cells) (slots + rm.slots) → Q v T'.heap L → GoP p e below Φ (T'.setTop (mkF m pc' Ls (v.toList ++ rest)))) : GoP p e below Φ (T.setTop (mkF m pc Ls st)) := by
  obtain ⟨cq, kq, qa, qb, qc⟩ := isOf hZ eT E
  obtain ⟨v, _, ⟨T', L', k', n'⟩, -, X', ⟨L, hQ, l1, y1, z1⟩, st'⟩ := X.virtualBackUp hx (x := x0) (y := y) hown (mvT hZ w1) (mvT hZ ws) (mvT hZ w2) hy (mvT hZ w5) (mvT hZ w6) (backOf (W := W) hM hZ w4 w3 hf hl) qa qc (g := mkF m pc Ls st) rfl hml (Steps.refl _) (argsL := argsL) (rest := rest) hlen hst (by show 2 * 0 + _ ≤ _; omega) (hb hby hd) (fun _ _ => ⟨rfl, eT, hc, hs⟩)
  dsimp only [Pt.U, Pt.locs, Pt.cells, Pt.slots] at X' l1 y1 z1 st' hQ
  subst l1 y1 z1 hp
  exact own_trans st' (k _ _ _ X' hQ)
theorem own_callF (X : Stand p l e R s m args below meth c T locs cells slots) (hx : p.tables.exec = Jvm.exec) (hby : c.code = bytes) (hZ : Z.Warmed39 s.vm) (hml : Ls.size = c.maxLocals) {own : String} {index : Nat} {x0 y : MethodName} (hown : s.vm.findClass own = some m.cls) {count : Nat} {C : String} {b : Addr} (w1 : (Jvm.Cond.methodLink own index x0).before a0 Z = true) (w2 : (Jvm.Cond.declares x0).before a0 Z = true) (w7 : (Jvm.Cond.interfaceMethod x0.cls x0.cls x0.name x0.desc).before a0 Z = true) (w5 : (Jvm.Cond.selects C x0 y).before a0 Z = true) (w6 : (Jvm.Cond.instanceMethod y).before a0 Z = true) (w8 : (Jvm.Cond.publicMethod y).before a0 Z = true) (w9 : (Jvm.Cond.unhidden C x0.name x0.desc).before a0 Z = true) (w10 : (Jvm.Cond.castable C x0.cls).before a0 Z = true) (w3 : (Jvm.Cond.initialized y.cls).before a0 Z = true) (q7 : ((Jvm.Cond.interfaceMethod x0.cls x0.cls x0.name x0.desc).onTables && (Jvm.Cond.interfaceMethod x0.cls x0.cls x0.name x0.desc).keepsFace) = true) {bytes' : ByteArray} {maxL : Nat} {ret : Option FieldType} (w4 : (Jvm.Cond.code y bytes' maxL ret).before a0 Z = true) (hy : x0.cls ≠ "java/lang/invoke/MethodHandle" ∧ x0.cls ≠ "java/lang/invoke/VarHandle") {rm : Room} {Q : Option Value → Heap → List Loc → Prop} (eT : T.heap = h) (W : Nat) (hf : rm.frames + 1 ≤ R.frames) (hl : W + (maxL + 11) + rm.locals ≤ R.locals) (hc : cells + rm.cells ≤ R.cells) (hs : slots + rm.slots ≤ R.slots) {argsL rest : List Value} {st : List Value} (hlen : ∀ sig, parseMethodDescriptor x0.desc = some sig → argsL.length = sig.parameters.length) (hst : st = argsL.reverse ++ .ref b :: rest) (hW : (rest.map fun v => v.category).sum ≤ W) (E : Exa Z h b C) (hM : Con l Z y bytes' maxL ret [] rm (.ref b :: argsL).toArray h Q) (hd : decode bytes pc = .ok (.invokeinterface index count, 5)) (hp : pc + 5 = pc') (k : ∀ (v : Option Value) (T' : State) (L : List Loc), Stand p l e R s m args below meth c T' (locs ++ L) (cells + rm.cells) (slots + rm.slots) → Q v T'.heap L → GoP p e below Φ (T'.setTop (mkF m pc' Ls (v.toList ++ rest)))) : GoP p e below Φ (T.setTop (mkF m pc Ls st)) := by
  obtain ⟨cq, kq, qa, qb, qc⟩ := isOf hZ eT E
  obtain ⟨v, _, ⟨T', L', k', n'⟩, -, X', ⟨L, hQ, l1, y1, z1⟩, st'⟩ := X.interfaceBack hx (xi := x0) (y := y) hown (mvT hZ w1) (mvT hZ w2) (mvT hZ w7 q7) (mvT hZ w5) (mvT hZ w6) (mvT hZ w8) (mvT hZ w9) (mvT hZ w10) hy (backOf (W := W) hM hZ w4 w3 hf hl) qa qb qc (g := mkF m pc Ls st) rfl hml (Steps.refl _) (argsL := argsL) (rest := rest) hlen hst (by show 2 * 0 + _ ≤ _; omega) (hb hby hd) (fun _ _ => ⟨rfl, eT, hc, hs⟩)
  dsimp only [Pt.U, Pt.locs, Pt.cells, Pt.slots] at X' l1 y1 z1 st' hQ
  subst l1 y1 z1 hp
  exact own_trans st' (k _ _ _ X' hQ)
theorem own_callP (X : Stand p l e R s m args below meth c T locs cells slots) (hx : p.tables.exec = Jvm.exec) (hby : c.code = bytes) (hZ : Z.Warmed39 s.vm) (hml : Ls.size = c.maxLocals) {own : String} {index : Nat} {y : MethodName} (hown : s.vm.findClass own = some m.cls) {C : String} {b : Addr} (w1 : (Jvm.Cond.methodLink own index y).before a0 Z = true) (w2 : (Jvm.Cond.privateMethod y).before a0 Z = true) (w5 : (Jvm.Cond.selects y.cls y y).before a0 Z = true) (w6 : (Jvm.Cond.instanceMethod y).before a0 Z = true) (w3 : (Jvm.Cond.initialized y.cls).before a0 Z = true) {bytes' : ByteArray} {maxL : Nat} {ret : Option FieldType} (w4 : (Jvm.Cond.code y bytes' maxL ret).before a0 Z = true) (hy : y.cls ≠ "java/lang/invoke/MethodHandle" ∧ y.cls ≠ "java/lang/invoke/VarHandle") {rm : Room} {Q : Option Value → Heap → List Loc → Prop} (eT : T.heap = h) (W : Nat) (hf : rm.frames + 1 ≤ R.frames) (hl : W + (maxL + 11) + rm.locals ≤ R.locals) (hc : cells + rm.cells ≤ R.cells) (hs : slots + rm.slots ≤ R.slots) {argsL rest : List Value} {st : List Value} (hlen : ∀ sig, parseMethodDescriptor y.desc = some sig → argsL.length = sig.parameters.length) (hst : st = argsL.reverse ++ .ref b :: rest) (hW : (rest.map fun v => v.category).sum ≤ W) (E : Exa Z h b C) (hM : Con l Z y bytes' maxL ret [] rm (.ref b :: argsL).toArray h Q) (hd : decode bytes pc = .ok (.invokevirtual index, 3)) (hp : pc + 3 = pc') (k : ∀ (v : Option Value) (T' : State) (L : List Loc), Stand p l e R s m args below meth c T' (locs ++ L) (cells + rm.cells) (slots + rm.slots) → Q v T'.heap L → GoP p e below Φ (T'.setTop (mkF m pc' Ls (v.toList ++ rest)))) : GoP p e below Φ (T.setTop (mkF m pc Ls st)) := by
  obtain ⟨cq, q1, q2⟩ := E.cell
  obtain ⟨v, _, ⟨T', L', k', n'⟩, -, X', ⟨L, hQ, l1, y1, z1⟩, st'⟩ := X.privateBack hx (y := y) hown (mvT hZ w1) (mvT hZ w6) (mvT hZ w5) (Cond.privateMethod_at (mvP hZ w2 (args := #[]))) (mvT hZ w4) hy (backOf (W := W) hM hZ w4 w3 hf hl) (g := mkF m pc Ls st) rfl hml (Steps.refl _) (a := b) (by rw [eT]; exact q1) q2 (argsL := argsL) (rest := rest) hlen hst (by show 2 * 0 + _ ≤ _; omega) (hb hby hd) (fun _ _ => ⟨rfl, eT, hc, hs⟩)
  dsimp only [Pt.U, Pt.locs, Pt.cells, Pt.slots] at X' l1 y1 z1 st' hQ
  subst l1 y1 z1 hp
  exact own_trans st' (k _ _ _ X' hQ)
theorem own_fldI {args : Array Value} {s : State} {t : Term} {a : Addr} {C n d : String} {k : Int32} (ev : t.eval args s none [] s = some (.ref a)) (q : (Jvm.Cond.eq (Jvm.Term.field t C n d) (Jvm.Term.int k)).value args s none s [] = some true) : Fld s s.heap a C n d (.int k) := by
  obtain ⟨x, y, e1, e2, k1, k2⟩ := cmp_v (Or.inl q)
  have ey : y = .int k := Option.some.inj (e2.symm.trans (Term.int_eval k))
  subst ey
  obtain ⟨z, rfl⟩ : ∃ z, x = .int z := k2
  have ez : z = k := by simpa [Cond.value, e1, e2] using q
  subst ez
  exact Fld.start ((fld_at ev).symm.trans e1)
theorem own_i32 (x : Int32) (k : Int) (hk : (Int32.ofInt k).toInt = k) (h : x.toInt = k) : x = Int32.ofInt k := Int32.toInt_inj.mp (h.trans hk.symm)
theorem own_stakeep {C n d : String} {w : Value} {h' : Heap} {ws : List Addr} (F : Sta Z h C n d w) (K : Keep h h' ws) (q : ∀ x ∈ ws, ∀ c : Cell, h[x]? = some c → c.vm.isStatics = false) : Sta Z h' C n d w := by
  obtain ⟨cf, i, k, f, st, cell, h1, h2, h3, h4, h5, h6, h7⟩ := F
  exact ⟨cf, i, k, f, st, cell, h1, h2, h3, h4, K.2.1 st cell h5 (fun y => by rw [q st y cell h5] at h6; cases h6), h6, h7⟩
theorem own_plainE {a : Addr} {C : String} (F : Exa Z h a C) : ∀ c : Cell, h[a]? = some c → c.vm.isStatics = false := fun c hc => by
  obtain ⟨cell, k, h1, h2, h3, h4, -⟩ := F
  cases hc.symm.trans h1; exact h4
theorem own_plainV {a : Addr} {k : ClassId} {ty : FieldType} {n : Int32} {vs : List Value} {d : Value} (F : Arv Z h a k ty n vs d) : ∀ c : Cell, h[a]? = some c → c.vm.isStatics = false := fun c hc => by
  obtain ⟨cell, A, -⟩ := F
  cases hc.symm.trans A.1; exact A.plain
/-- an int array of length n, of whatever ints -/
def IA (Z : State) (h : Heap) (a : Addr) (n : Int32) : Prop := ∃ cl : Cell, Arr Z h a cl .int ∧ cl.slots.size = n.toNatClampNeg ∧ ¬ n < 0 ∧ ∀ i, i < cl.slots.size → ∃ x, cl.slots[i]? = some (.int x)
theorem IA.new {a : Addr} {k : ClassId} {n : Int32} (A : Arr Z h a (newA k .int n) .int) (q : ¬ n < 0) : IA Z h a n :=
  ⟨_, A, sz_new _ _ _, q, fun i hi => ⟨0, by simp [newA] at hi ⊢; simp [defaultValue, hi]⟩⟩
theorem own_iastoreA (X : Stand p l e R s m args below meth c T locs cells slots) (hx : p.tables.exec = Jvm.exec) (hby : c.code = bytes) (hZ : Z.Warmed39 s.vm) (eT : T.heap = h) {a : Addr} {n j x : Int32} (F : IA Z h a n) (hj : ¬ j < 0 ∧ j < n) (hd : decode bytes pc = .ok (.iastore, 1)) (hp : pc + 1 = pc') (k : ∀ (T' : State) (h' : Heap), Stand p l e R s m args below meth c T' (locs ++ [⟨a, j.toNatClampNeg⟩]) cells slots → T'.heap = h' → Wr h h' a j.toNatClampNeg (.int x) → IA Z h' a n → GoP p e below Φ (T'.setTop (mkF m pc' Ls rest))) : GoP p e below Φ (T.setTop (mkF m pc Ls (.int x :: .int j :: .ref a :: rest))) := by
  subst hp
  obtain ⟨cl, A, S, N, H⟩ := F
  obtain ⟨T', h', X', e', W', st'⟩ := stI X hx hZ eT A (j := j) (x := x) (inb_of S hj) (g := mkF m pc Ls (.int x :: .int j :: .ref a :: rest)) rfl rfl (hb hby hd)
  refine own_step st' (k T' h' X' e' W' ⟨_, A.same W', by rw [sz_set]; exact S, N, fun i hi => ?_⟩)
  rw [sz_set] at hi
  by_cases q : i = j.toNatClampNeg
  · subst q; exact ⟨x, by simp [Cell.setSlot, hi]⟩
  · obtain ⟨y, hy⟩ := H i hi
    exact ⟨y, by rw [show (cl.setSlot j.toNatClampNeg (.int x)).slots[i]? = cl.slots[i]? from Array.getElem?_setIfInBounds_ne (Ne.symm q)]; exact hy⟩
theorem own_ialoadA (X : Stand p l e R s m args below meth c T locs cells slots) (hx : p.tables.exec = Jvm.exec) (hby : c.code = bytes) (hZ : Z.Warmed39 s.vm) (eT : T.heap = h) {a : Addr} {n j : Int32} (F : IA Z h a n) (hj : ¬ j < 0 ∧ j < n) (hd : decode bytes pc = .ok (.iaload, 1)) (hp : pc + 1 = pc') (k : ∀ w : Int32, GoP p e below Φ (T.setTop (mkF m pc' Ls (.int w :: rest)))) : GoP p e below Φ (T.setTop (mkF m pc Ls (.int j :: .ref a :: rest))) := by
  subst hp
  obtain ⟨cl, A, S, N, H⟩ := F
  have q := inb_of S hj
  obtain ⟨w, hw⟩ := H j.toNatClampNeg (Nat.lt_of_not_le fun y => q (Or.inr y))
  exact own_step (fun t u => X.iaload hx (j := j) (v := .int w) (by rw [eT]; exact A.1) (State.isArrayOf_alike hZ.alike A.2.1) A.2.2 q hw (g := mkF m pc Ls (.int j :: .ref a :: rest)) rfl rfl (hb hby hd) t u) (k w)
theorem own_alenA (X : Stand p l e R s m args below meth c T locs cells slots) (hx : p.tables.exec = Jvm.exec) (hby : c.code = bytes) (hZ : Z.Warmed39 s.vm) (eT : T.heap = h) {a : Addr} {n : Int32} (F : IA Z h a n) (hd : decode bytes pc = .ok (.arraylength, 1)) (hp : pc + 1 = pc') (k : GoP p e below Φ (T.setTop (mkF m pc' Ls (.int n :: rest)))) : GoP p e below Φ (T.setTop (mkF m pc Ls (.ref a :: rest))) := by
  subst hp
  obtain ⟨cl, A, S, N, H⟩ := F
  rw [← len_of S N] at k
  exact own_step (fun t u => X.arraylength hx (by rw [eT]; exact A.1) (State.isArrayOf_alike hZ.alike A.2.1) (g := mkF m pc Ls (.ref a :: rest)) rfl rfl (hb hby hd) t u) k
end OwnKit
end Jvm.Pilot.@@N@@
namespace Jvm.Pilot.@@N@@
open Jvm Jvm.ClassFile Sem Op Lib Jvm.Free Jvm.Stand Jvm.LawKit Jvm.RoadKit Bundle Jvm.Pilot.@@N@@.Jvm.D
def own_can (c : Int32) : Int32 := if c.toInt = 9 ∨ c.toInt = 10 ∨ c.toInt = 13 ∨ (32 ≤ c.toInt ∧ c.toInt ≤ 55295) ∨ (57344 ≤ c.toInt ∧ c.toInt ≤ 65533) ∨ (65536 ≤ c.toInt ∧ c.toInt ≤ 1114111) then (1 : Int32) else (0 : Int32)
theorem ef_rmC (m : MethodId) (x0 : Int32) : entryFrame m #[(.int x0)] 1 = mkF m 0 #[.val (.int x0)] [] := by first | (simp [entryFrame, mkF, argsToLocals, Value.category]; done) | rfl
theorem pn_com_example_tracemass_tracemass_inputs_XmlDocument : plainName "com/example/tracemass/tracemass/inputs/XmlDocument" = true := by first | (simp [plainName, overriddenIn]; done) | decide +kernel
theorem d_prog_20_method_2_code_0 : decode prog_20_method_2_code 0 = .ok (.iload_n 0, 1) := by decide +kernel
theorem d_prog_20_method_2_code_1 : decode prog_20_method_2_code 1 = .ok (.bipush 9, 2) := by decide +kernel
theorem d_prog_20_method_2_code_3 : decode prog_20_method_2_code 3 = .ok (.if_icmp .eq 51, 3) := by decide +kernel
theorem d_prog_20_method_2_code_54 : decode prog_20_method_2_code 54 = .ok (.iconst 1, 1) := by decide +kernel
theorem d_prog_20_method_2_code_55 : decode prog_20_method_2_code 55 = .ok (.goto 4, 3) := by decide +kernel
theorem d_prog_20_method_2_code_59 : decode prog_20_method_2_code 59 = .ok (.ireturn, 1) := by decide +kernel
theorem d_prog_20_method_2_code_6 : decode prog_20_method_2_code 6 = .ok (.iload_n 0, 1) := by decide +kernel
theorem d_prog_20_method_2_code_7 : decode prog_20_method_2_code 7 = .ok (.bipush 10, 2) := by decide +kernel
theorem d_prog_20_method_2_code_9 : decode prog_20_method_2_code 9 = .ok (.if_icmp .eq 45, 3) := by decide +kernel
theorem d_prog_20_method_2_code_12 : decode prog_20_method_2_code 12 = .ok (.iload_n 0, 1) := by decide +kernel
theorem d_prog_20_method_2_code_13 : decode prog_20_method_2_code 13 = .ok (.bipush 13, 2) := by decide +kernel
theorem d_prog_20_method_2_code_15 : decode prog_20_method_2_code 15 = .ok (.if_icmp .eq 39, 3) := by decide +kernel
theorem d_prog_20_method_2_code_18 : decode prog_20_method_2_code 18 = .ok (.iload_n 0, 1) := by decide +kernel
theorem d_prog_20_method_2_code_19 : decode prog_20_method_2_code 19 = .ok (.bipush 32, 2) := by decide +kernel
theorem d_prog_20_method_2_code_21 : decode prog_20_method_2_code 21 = .ok (.if_icmp .lt 9, 3) := by decide +kernel
theorem d_prog_20_method_2_code_30 : decode prog_20_method_2_code 30 = .ok (.iload_n 0, 1) := by decide +kernel
theorem d_prog_20_method_2_code_31 : decode prog_20_method_2_code 31 = .ok (.ldc 18, 2) := by decide +kernel
theorem d_prog_20_method_2_code_33 : decode prog_20_method_2_code 33 = .ok (.if_icmp .lt 9, 3) := by decide +kernel
theorem d_prog_20_method_2_code_42 : decode prog_20_method_2_code 42 = .ok (.iload_n 0, 1) := by decide +kernel
theorem d_prog_20_method_2_code_43 : decode prog_20_method_2_code 43 = .ok (.ldc 20, 2) := by decide +kernel
theorem d_prog_20_method_2_code_45 : decode prog_20_method_2_code 45 = .ok (.if_icmp .lt 13, 3) := by decide +kernel
theorem d_prog_20_method_2_code_58 : decode prog_20_method_2_code 58 = .ok (.iconst 0, 1) := by decide +kernel
theorem d_prog_20_method_2_code_48 : decode prog_20_method_2_code 48 = .ok (.iload_n 0, 1) := by decide +kernel
theorem d_prog_20_method_2_code_49 : decode prog_20_method_2_code 49 = .ok (.ldc 21, 2) := by decide +kernel
theorem d_prog_20_method_2_code_51 : decode prog_20_method_2_code 51 = .ok (.if_icmp .gt 7, 3) := by decide +kernel
theorem d_prog_20_method_2_code_36 : decode prog_20_method_2_code 36 = .ok (.iload_n 0, 1) := by decide +kernel
theorem d_prog_20_method_2_code_37 : decode prog_20_method_2_code 37 = .ok (.ldc 19, 2) := by decide +kernel
theorem d_prog_20_method_2_code_39 : decode prog_20_method_2_code 39 = .ok (.if_icmp .le 15, 3) := by decide +kernel
theorem d_prog_20_method_2_code_24 : decode prog_20_method_2_code 24 = .ok (.iload_n 0, 1) := by decide +kernel
theorem d_prog_20_method_2_code_25 : decode prog_20_method_2_code 25 = .ok (.ldc 17, 2) := by decide +kernel
theorem d_prog_20_method_2_code_27 : decode prog_20_method_2_code 27 = .ok (.if_icmp .le 27, 3) := by decide +kernel
set_option maxRecDepth 65536 in
set_option maxHeartbeats 40000000 in
theorem rmC (l : Launch) (Z : State) (a0 : Array Value) (hw : ∀ d ∈ tables_1, d.before a0 Z = true) (p1 : Int32) (h0 : Heap)  : Con l Z (⟨"com/example/tracemass/tracemass/inputs/XmlDocument", "canHold", "(I)Z"⟩ : MethodName) prog_20_method_2_code 1 (some .boolean) [] ({ frames := 0, cells := 0, slots := 0, locals := 0 } : Room) #[(.int p1)] h0 (fun v h L => v = some (.int (own_can p1)) ∧ L = [] ∧ h = h0) := by
  refine Con.of pn_com_example_tracemass_tracemass_inputs_XmlDocument ?_
  intro p e s m below meth c T X hx hby hml hown hnm hret eT hZ hsh Φ fin
  replace hown : s.vm.findClass "com/example/tracemass/tracemass/inputs/XmlDocument" = some m.cls := hown
  replace hml : 1 = c.maxLocals := hml.symm
  refine own_step (fun t k => castTop (ef_rmC m p1) k) ?_
  refine own_iloadN X hx hby d_prog_20_method_2_code_0 rfl (pc' := 1) rfl ?_
  refine own_bipush X hx hby d_prog_20_method_2_code_1 (v := (9 : Int32)) rfl (pc' := 3) rfl ?_
  by_cases hc3_1 : p1 = (9 : Int32)
  · refine own_icmpY X hx hby d_prog_20_method_2_code_3 (teq hc3_1).1 (by decide) (pc' := 54) (by decide) ?_
    refine own_iconst X hx hby d_prog_20_method_2_code_54 (v := (1 : Int32)) rfl (pc' := 55) rfl ?_
    refine own_goto X hx hby d_prog_20_method_2_code_55 (by decide) (pc' := 59) (by decide) ?_
    exact own_retN X hx hby fin hret (by simp) rfl d_prog_20_method_2_code_59 (by decide) (by decide) ⟨by
          have l9 : (9 : Int32).toInt = 9 := by decide
          simp only [Int32.lt_iff_toInt_lt, ← Int32.toInt_inj, l9] at hc3_1
          rw [own_can, if_pos (by omega)], rfl, eT⟩
  · refine own_icmpN X hx hby d_prog_20_method_2_code_3 (feq hc3_1).1 (pc' := 6) rfl ?_
    refine own_iloadN X hx hby d_prog_20_method_2_code_6 rfl (pc' := 7) rfl ?_
    refine own_bipush X hx hby d_prog_20_method_2_code_7 (v := (10 : Int32)) rfl (pc' := 9) rfl ?_
    by_cases hc9_2 : p1 = (10 : Int32)
    · refine own_icmpY X hx hby d_prog_20_method_2_code_9 (teq hc9_2).1 (by decide) (pc' := 54) (by decide) ?_
      refine own_iconst X hx hby d_prog_20_method_2_code_54 (v := (1 : Int32)) rfl (pc' := 55) rfl ?_
      refine own_goto X hx hby d_prog_20_method_2_code_55 (by decide) (pc' := 59) (by decide) ?_
      exact own_retN X hx hby fin hret (by simp) rfl d_prog_20_method_2_code_59 (by decide) (by decide) ⟨by
            have l9 : (9 : Int32).toInt = 9 := by decide
            have l10 : (10 : Int32).toInt = 10 := by decide
            simp only [Int32.lt_iff_toInt_lt, ← Int32.toInt_inj, l9, l10] at hc3_1 hc9_2
            rw [own_can, if_pos (by omega)], rfl, eT⟩
    · refine own_icmpN X hx hby d_prog_20_method_2_code_9 (feq hc9_2).1 (pc' := 12) rfl ?_
      refine own_iloadN X hx hby d_prog_20_method_2_code_12 rfl (pc' := 13) rfl ?_
      refine own_bipush X hx hby d_prog_20_method_2_code_13 (v := (13 : Int32)) rfl (pc' := 15) rfl ?_
      by_cases hc15_3 : p1 = (13 : Int32)
      · refine own_icmpY X hx hby d_prog_20_method_2_code_15 (teq hc15_3).1 (by decide) (pc' := 54) (by decide) ?_
        refine own_iconst X hx hby d_prog_20_method_2_code_54 (v := (1 : Int32)) rfl (pc' := 55) rfl ?_
        refine own_goto X hx hby d_prog_20_method_2_code_55 (by decide) (pc' := 59) (by decide) ?_
        exact own_retN X hx hby fin hret (by simp) rfl d_prog_20_method_2_code_59 (by decide) (by decide) ⟨by
              have l9 : (9 : Int32).toInt = 9 := by decide
              have l10 : (10 : Int32).toInt = 10 := by decide
              have l13 : (13 : Int32).toInt = 13 := by decide
              simp only [Int32.lt_iff_toInt_lt, ← Int32.toInt_inj, l9, l10, l13] at hc3_1 hc9_2 hc15_3
              rw [own_can, if_pos (by omega)], rfl, eT⟩
      · refine own_icmpN X hx hby d_prog_20_method_2_code_15 (feq hc15_3).1 (pc' := 18) rfl ?_
        refine own_iloadN X hx hby d_prog_20_method_2_code_18 rfl (pc' := 19) rfl ?_
        refine own_bipush X hx hby d_prog_20_method_2_code_19 (v := (32 : Int32)) rfl (pc' := 21) rfl ?_
        by_cases hc21_4 : p1 < (32 : Int32)
        · refine own_icmpY X hx hby d_prog_20_method_2_code_21 (tlt hc21_4).1 (by decide) (pc' := 30) (by decide) ?_
          refine own_iloadN X hx hby d_prog_20_method_2_code_30 rfl (pc' := 31) rfl ?_
          refine own_ldcI X hx hby hZ hown (own_w hw 17 rfl) d_prog_20_method_2_code_31 (pc' := 33) rfl ?_
          by_cases hc33_5 : p1 < (57344 : Int32)
          · refine own_icmpY X hx hby d_prog_20_method_2_code_33 (tlt hc33_5).1 (by decide) (pc' := 42) (by decide) ?_
            refine own_iloadN X hx hby d_prog_20_method_2_code_42 rfl (pc' := 43) rfl ?_
            refine own_ldcI X hx hby hZ hown (own_w hw 18 rfl) d_prog_20_method_2_code_43 (pc' := 45) rfl ?_
            by_cases hc45_6 : p1 < (65536 : Int32)
            · refine own_icmpY X hx hby d_prog_20_method_2_code_45 (tlt hc45_6).1 (by decide) (pc' := 58) (by decide) ?_
              refine own_iconst X hx hby d_prog_20_method_2_code_58 (v := (0 : Int32)) rfl (pc' := 59) rfl ?_
              exact own_retN X hx hby fin hret (by simp) rfl d_prog_20_method_2_code_59 (by decide) (by decide) ⟨by
                    have l9 : (9 : Int32).toInt = 9 := by decide
                    have l10 : (10 : Int32).toInt = 10 := by decide
                    have l13 : (13 : Int32).toInt = 13 := by decide
                    have l32 : (32 : Int32).toInt = 32 := by decide
                    have l57344 : (57344 : Int32).toInt = 57344 := by decide
                    have l65536 : (65536 : Int32).toInt = 65536 := by decide
                    simp only [Int32.lt_iff_toInt_lt, ← Int32.toInt_inj, l9, l10, l13, l32, l57344, l65536] at hc3_1 hc9_2 hc15_3 hc21_4 hc33_5 hc45_6
                    rw [own_can, if_neg (by omega)], rfl, eT⟩
            · refine own_icmpN X hx hby d_prog_20_method_2_code_45 (flt hc45_6).1 (pc' := 48) rfl ?_
              refine own_iloadN X hx hby d_prog_20_method_2_code_48 rfl (pc' := 49) rfl ?_
              refine own_ldcI X hx hby hZ hown (own_w hw 25 rfl) d_prog_20_method_2_code_49 (pc' := 51) rfl ?_
              by_cases hc51_7 : (1114111 : Int32) < p1
              · refine own_icmpY X hx hby d_prog_20_method_2_code_51 (tlt hc51_7).2.2.1 (by decide) (pc' := 58) (by decide) ?_
                refine own_iconst X hx hby d_prog_20_method_2_code_58 (v := (0 : Int32)) rfl (pc' := 59) rfl ?_
                exact own_retN X hx hby fin hret (by simp) rfl d_prog_20_method_2_code_59 (by decide) (by decide) ⟨by
                      have l9 : (9 : Int32).toInt = 9 := by decide
                      have l10 : (10 : Int32).toInt = 10 := by decide
                      have l13 : (13 : Int32).toInt = 13 := by decide
                      have l32 : (32 : Int32).toInt = 32 := by decide
                      have l57344 : (57344 : Int32).toInt = 57344 := by decide
                      have l65536 : (65536 : Int32).toInt = 65536 := by decide
                      have l1114111 : (1114111 : Int32).toInt = 1114111 := by decide
                      simp only [Int32.lt_iff_toInt_lt, ← Int32.toInt_inj, l9, l10, l13, l32, l57344, l65536, l1114111] at hc3_1 hc9_2 hc15_3 hc21_4 hc33_5 hc45_6 hc51_7
                      rw [own_can, if_neg (by omega)], rfl, eT⟩
              · refine own_icmpN X hx hby d_prog_20_method_2_code_51 (flt hc51_7).2.2.1 (pc' := 54) rfl ?_
                refine own_iconst X hx hby d_prog_20_method_2_code_54 (v := (1 : Int32)) rfl (pc' := 55) rfl ?_
                refine own_goto X hx hby d_prog_20_method_2_code_55 (by decide) (pc' := 59) (by decide) ?_
                exact own_retN X hx hby fin hret (by simp) rfl d_prog_20_method_2_code_59 (by decide) (by decide) ⟨by
                      have l9 : (9 : Int32).toInt = 9 := by decide
                      have l10 : (10 : Int32).toInt = 10 := by decide
                      have l13 : (13 : Int32).toInt = 13 := by decide
                      have l32 : (32 : Int32).toInt = 32 := by decide
                      have l57344 : (57344 : Int32).toInt = 57344 := by decide
                      have l65536 : (65536 : Int32).toInt = 65536 := by decide
                      have l1114111 : (1114111 : Int32).toInt = 1114111 := by decide
                      simp only [Int32.lt_iff_toInt_lt, ← Int32.toInt_inj, l9, l10, l13, l32, l57344, l65536, l1114111] at hc3_1 hc9_2 hc15_3 hc21_4 hc33_5 hc45_6 hc51_7
                      rw [own_can, if_pos (by omega)], rfl, eT⟩
          · refine own_icmpN X hx hby d_prog_20_method_2_code_33 (flt hc33_5).1 (pc' := 36) rfl ?_
            refine own_iloadN X hx hby d_prog_20_method_2_code_36 rfl (pc' := 37) rfl ?_
            refine own_ldcI X hx hby hZ hown (own_w hw 24 rfl) d_prog_20_method_2_code_37 (pc' := 39) rfl ?_
            by_cases hc39_8 : (65533 : Int32) < p1
            · refine own_icmpN X hx hby d_prog_20_method_2_code_39 (tlt hc39_8).2.2.2 (pc' := 42) rfl ?_
              refine own_iloadN X hx hby d_prog_20_method_2_code_42 rfl (pc' := 43) rfl ?_
              refine own_ldcI X hx hby hZ hown (own_w hw 18 rfl) d_prog_20_method_2_code_43 (pc' := 45) rfl ?_
              by_cases hc45_9 : p1 < (65536 : Int32)
              · refine own_icmpY X hx hby d_prog_20_method_2_code_45 (tlt hc45_9).1 (by decide) (pc' := 58) (by decide) ?_
                refine own_iconst X hx hby d_prog_20_method_2_code_58 (v := (0 : Int32)) rfl (pc' := 59) rfl ?_
                exact own_retN X hx hby fin hret (by simp) rfl d_prog_20_method_2_code_59 (by decide) (by decide) ⟨by
                      have l9 : (9 : Int32).toInt = 9 := by decide
                      have l10 : (10 : Int32).toInt = 10 := by decide
                      have l13 : (13 : Int32).toInt = 13 := by decide
                      have l32 : (32 : Int32).toInt = 32 := by decide
                      have l57344 : (57344 : Int32).toInt = 57344 := by decide
                      have l65533 : (65533 : Int32).toInt = 65533 := by decide
                      have l65536 : (65536 : Int32).toInt = 65536 := by decide
                      simp only [Int32.lt_iff_toInt_lt, ← Int32.toInt_inj, l9, l10, l13, l32, l57344, l65533, l65536] at hc3_1 hc9_2 hc15_3 hc21_4 hc33_5 hc39_8 hc45_9
                      rw [own_can, if_neg (by omega)], rfl, eT⟩
              · refine own_icmpN X hx hby d_prog_20_method_2_code_45 (flt hc45_9).1 (pc' := 48) rfl ?_
                refine own_iloadN X hx hby d_prog_20_method_2_code_48 rfl (pc' := 49) rfl ?_
                refine own_ldcI X hx hby hZ hown (own_w hw 25 rfl) d_prog_20_method_2_code_49 (pc' := 51) rfl ?_
                by_cases hc51_10 : (1114111 : Int32) < p1
                · refine own_icmpY X hx hby d_prog_20_method_2_code_51 (tlt hc51_10).2.2.1 (by decide) (pc' := 58) (by decide) ?_
                  refine own_iconst X hx hby d_prog_20_method_2_code_58 (v := (0 : Int32)) rfl (pc' := 59) rfl ?_
                  exact own_retN X hx hby fin hret (by simp) rfl d_prog_20_method_2_code_59 (by decide) (by decide) ⟨by
                        have l9 : (9 : Int32).toInt = 9 := by decide
                        have l10 : (10 : Int32).toInt = 10 := by decide
                        have l13 : (13 : Int32).toInt = 13 := by decide
                        have l32 : (32 : Int32).toInt = 32 := by decide
                        have l57344 : (57344 : Int32).toInt = 57344 := by decide
                        have l65533 : (65533 : Int32).toInt = 65533 := by decide
                        have l65536 : (65536 : Int32).toInt = 65536 := by decide
                        have l1114111 : (1114111 : Int32).toInt = 1114111 := by decide
                        simp only [Int32.lt_iff_toInt_lt, ← Int32.toInt_inj, l9, l10, l13, l32, l57344, l65533, l65536, l1114111] at hc3_1 hc9_2 hc15_3 hc21_4 hc33_5 hc39_8 hc45_9 hc51_10
                        rw [own_can, if_neg (by omega)], rfl, eT⟩
                · refine own_icmpN X hx hby d_prog_20_method_2_code_51 (flt hc51_10).2.2.1 (pc' := 54) rfl ?_
                  refine own_iconst X hx hby d_prog_20_method_2_code_54 (v := (1 : Int32)) rfl (pc' := 55) rfl ?_
                  refine own_goto X hx hby d_prog_20_method_2_code_55 (by decide) (pc' := 59) (by decide) ?_
                  exact own_retN X hx hby fin hret (by simp) rfl d_prog_20_method_2_code_59 (by decide) (by decide) ⟨by
                        have l9 : (9 : Int32).toInt = 9 := by decide
                        have l10 : (10 : Int32).toInt = 10 := by decide
                        have l13 : (13 : Int32).toInt = 13 := by decide
                        have l32 : (32 : Int32).toInt = 32 := by decide
                        have l57344 : (57344 : Int32).toInt = 57344 := by decide
                        have l65533 : (65533 : Int32).toInt = 65533 := by decide
                        have l65536 : (65536 : Int32).toInt = 65536 := by decide
                        have l1114111 : (1114111 : Int32).toInt = 1114111 := by decide
                        simp only [Int32.lt_iff_toInt_lt, ← Int32.toInt_inj, l9, l10, l13, l32, l57344, l65533, l65536, l1114111] at hc3_1 hc9_2 hc15_3 hc21_4 hc33_5 hc39_8 hc45_9 hc51_10
                        rw [own_can, if_pos (by omega)], rfl, eT⟩
            · refine own_icmpY X hx hby d_prog_20_method_2_code_39 (flt hc39_8).2.2.2 (by decide) (pc' := 54) (by decide) ?_
              refine own_iconst X hx hby d_prog_20_method_2_code_54 (v := (1 : Int32)) rfl (pc' := 55) rfl ?_
              refine own_goto X hx hby d_prog_20_method_2_code_55 (by decide) (pc' := 59) (by decide) ?_
              exact own_retN X hx hby fin hret (by simp) rfl d_prog_20_method_2_code_59 (by decide) (by decide) ⟨by
                    have l9 : (9 : Int32).toInt = 9 := by decide
                    have l10 : (10 : Int32).toInt = 10 := by decide
                    have l13 : (13 : Int32).toInt = 13 := by decide
                    have l32 : (32 : Int32).toInt = 32 := by decide
                    have l57344 : (57344 : Int32).toInt = 57344 := by decide
                    have l65533 : (65533 : Int32).toInt = 65533 := by decide
                    simp only [Int32.lt_iff_toInt_lt, ← Int32.toInt_inj, l9, l10, l13, l32, l57344, l65533] at hc3_1 hc9_2 hc15_3 hc21_4 hc33_5 hc39_8
                    rw [own_can, if_pos (by omega)], rfl, eT⟩
        · refine own_icmpN X hx hby d_prog_20_method_2_code_21 (flt hc21_4).1 (pc' := 24) rfl ?_
          refine own_iloadN X hx hby d_prog_20_method_2_code_24 rfl (pc' := 25) rfl ?_
          refine own_ldcI X hx hby hZ hown (own_w hw 23 rfl) d_prog_20_method_2_code_25 (pc' := 27) rfl ?_
          by_cases hc27_11 : (55295 : Int32) < p1
          · refine own_icmpN X hx hby d_prog_20_method_2_code_27 (tlt hc27_11).2.2.2 (pc' := 30) rfl ?_
            refine own_iloadN X hx hby d_prog_20_method_2_code_30 rfl (pc' := 31) rfl ?_
            refine own_ldcI X hx hby hZ hown (own_w hw 17 rfl) d_prog_20_method_2_code_31 (pc' := 33) rfl ?_
            by_cases hc33_12 : p1 < (57344 : Int32)
            · refine own_icmpY X hx hby d_prog_20_method_2_code_33 (tlt hc33_12).1 (by decide) (pc' := 42) (by decide) ?_
              refine own_iloadN X hx hby d_prog_20_method_2_code_42 rfl (pc' := 43) rfl ?_
              refine own_ldcI X hx hby hZ hown (own_w hw 18 rfl) d_prog_20_method_2_code_43 (pc' := 45) rfl ?_
              by_cases hc45_13 : p1 < (65536 : Int32)
              · refine own_icmpY X hx hby d_prog_20_method_2_code_45 (tlt hc45_13).1 (by decide) (pc' := 58) (by decide) ?_
                refine own_iconst X hx hby d_prog_20_method_2_code_58 (v := (0 : Int32)) rfl (pc' := 59) rfl ?_
                exact own_retN X hx hby fin hret (by simp) rfl d_prog_20_method_2_code_59 (by decide) (by decide) ⟨by
                      have l9 : (9 : Int32).toInt = 9 := by decide
                      have l10 : (10 : Int32).toInt = 10 := by decide
                      have l13 : (13 : Int32).toInt = 13 := by decide
                      have l32 : (32 : Int32).toInt = 32 := by decide
                      have l55295 : (55295 : Int32).toInt = 55295 := by decide
                      have l57344 : (57344 : Int32).toInt = 57344 := by decide
                      have l65536 : (65536 : Int32).toInt = 65536 := by decide
                      simp only [Int32.lt_iff_toInt_lt, ← Int32.toInt_inj, l9, l10, l13, l32, l55295, l57344, l65536] at hc3_1 hc9_2 hc15_3 hc21_4 hc27_11 hc33_12 hc45_13
                      rw [own_can, if_neg (by omega)], rfl, eT⟩
              · refine own_icmpN X hx hby d_prog_20_method_2_code_45 (flt hc45_13).1 (pc' := 48) rfl ?_
                refine own_iloadN X hx hby d_prog_20_method_2_code_48 rfl (pc' := 49) rfl ?_
                refine own_ldcI X hx hby hZ hown (own_w hw 25 rfl) d_prog_20_method_2_code_49 (pc' := 51) rfl ?_
                by_cases hc51_14 : (1114111 : Int32) < p1
                · refine own_icmpY X hx hby d_prog_20_method_2_code_51 (tlt hc51_14).2.2.1 (by decide) (pc' := 58) (by decide) ?_
                  refine own_iconst X hx hby d_prog_20_method_2_code_58 (v := (0 : Int32)) rfl (pc' := 59) rfl ?_
                  exact own_retN X hx hby fin hret (by simp) rfl d_prog_20_method_2_code_59 (by decide) (by decide) ⟨by
                        have l9 : (9 : Int32).toInt = 9 := by decide
                        have l10 : (10 : Int32).toInt = 10 := by decide
                        have l13 : (13 : Int32).toInt = 13 := by decide
                        have l32 : (32 : Int32).toInt = 32 := by decide
                        have l55295 : (55295 : Int32).toInt = 55295 := by decide
                        have l57344 : (57344 : Int32).toInt = 57344 := by decide
                        have l65536 : (65536 : Int32).toInt = 65536 := by decide
                        have l1114111 : (1114111 : Int32).toInt = 1114111 := by decide
                        simp only [Int32.lt_iff_toInt_lt, ← Int32.toInt_inj, l9, l10, l13, l32, l55295, l57344, l65536, l1114111] at hc3_1 hc9_2 hc15_3 hc21_4 hc27_11 hc33_12 hc45_13 hc51_14
                        rw [own_can, if_neg (by omega)], rfl, eT⟩
                · refine own_icmpN X hx hby d_prog_20_method_2_code_51 (flt hc51_14).2.2.1 (pc' := 54) rfl ?_
                  refine own_iconst X hx hby d_prog_20_method_2_code_54 (v := (1 : Int32)) rfl (pc' := 55) rfl ?_
                  refine own_goto X hx hby d_prog_20_method_2_code_55 (by decide) (pc' := 59) (by decide) ?_
                  exact own_retN X hx hby fin hret (by simp) rfl d_prog_20_method_2_code_59 (by decide) (by decide) ⟨by
                        have l9 : (9 : Int32).toInt = 9 := by decide
                        have l10 : (10 : Int32).toInt = 10 := by decide
                        have l13 : (13 : Int32).toInt = 13 := by decide
                        have l32 : (32 : Int32).toInt = 32 := by decide
                        have l55295 : (55295 : Int32).toInt = 55295 := by decide
                        have l57344 : (57344 : Int32).toInt = 57344 := by decide
                        have l65536 : (65536 : Int32).toInt = 65536 := by decide
                        have l1114111 : (1114111 : Int32).toInt = 1114111 := by decide
                        simp only [Int32.lt_iff_toInt_lt, ← Int32.toInt_inj, l9, l10, l13, l32, l55295, l57344, l65536, l1114111] at hc3_1 hc9_2 hc15_3 hc21_4 hc27_11 hc33_12 hc45_13 hc51_14
                        rw [own_can, if_pos (by omega)], rfl, eT⟩
            · refine own_icmpN X hx hby d_prog_20_method_2_code_33 (flt hc33_12).1 (pc' := 36) rfl ?_
              refine own_iloadN X hx hby d_prog_20_method_2_code_36 rfl (pc' := 37) rfl ?_
              refine own_ldcI X hx hby hZ hown (own_w hw 24 rfl) d_prog_20_method_2_code_37 (pc' := 39) rfl ?_
              by_cases hc39_15 : (65533 : Int32) < p1
              · refine own_icmpN X hx hby d_prog_20_method_2_code_39 (tlt hc39_15).2.2.2 (pc' := 42) rfl ?_
                refine own_iloadN X hx hby d_prog_20_method_2_code_42 rfl (pc' := 43) rfl ?_
                refine own_ldcI X hx hby hZ hown (own_w hw 18 rfl) d_prog_20_method_2_code_43 (pc' := 45) rfl ?_
                by_cases hc45_16 : p1 < (65536 : Int32)
                · refine own_icmpY X hx hby d_prog_20_method_2_code_45 (tlt hc45_16).1 (by decide) (pc' := 58) (by decide) ?_
                  refine own_iconst X hx hby d_prog_20_method_2_code_58 (v := (0 : Int32)) rfl (pc' := 59) rfl ?_
                  exact own_retN X hx hby fin hret (by simp) rfl d_prog_20_method_2_code_59 (by decide) (by decide) ⟨by
                        have l9 : (9 : Int32).toInt = 9 := by decide
                        have l10 : (10 : Int32).toInt = 10 := by decide
                        have l13 : (13 : Int32).toInt = 13 := by decide
                        have l32 : (32 : Int32).toInt = 32 := by decide
                        have l55295 : (55295 : Int32).toInt = 55295 := by decide
                        have l57344 : (57344 : Int32).toInt = 57344 := by decide
                        have l65533 : (65533 : Int32).toInt = 65533 := by decide
                        have l65536 : (65536 : Int32).toInt = 65536 := by decide
                        simp only [Int32.lt_iff_toInt_lt, ← Int32.toInt_inj, l9, l10, l13, l32, l55295, l57344, l65533, l65536] at hc3_1 hc9_2 hc15_3 hc21_4 hc27_11 hc33_12 hc39_15 hc45_16
                        rw [own_can, if_neg (by omega)], rfl, eT⟩
                · refine own_icmpN X hx hby d_prog_20_method_2_code_45 (flt hc45_16).1 (pc' := 48) rfl ?_
                  refine own_iloadN X hx hby d_prog_20_method_2_code_48 rfl (pc' := 49) rfl ?_
                  refine own_ldcI X hx hby hZ hown (own_w hw 25 rfl) d_prog_20_method_2_code_49 (pc' := 51) rfl ?_
                  by_cases hc51_17 : (1114111 : Int32) < p1
                  · refine own_icmpY X hx hby d_prog_20_method_2_code_51 (tlt hc51_17).2.2.1 (by decide) (pc' := 58) (by decide) ?_
                    refine own_iconst X hx hby d_prog_20_method_2_code_58 (v := (0 : Int32)) rfl (pc' := 59) rfl ?_
                    exact own_retN X hx hby fin hret (by simp) rfl d_prog_20_method_2_code_59 (by decide) (by decide) ⟨by
                          have l9 : (9 : Int32).toInt = 9 := by decide
                          have l10 : (10 : Int32).toInt = 10 := by decide
                          have l13 : (13 : Int32).toInt = 13 := by decide
                          have l32 : (32 : Int32).toInt = 32 := by decide
                          have l55295 : (55295 : Int32).toInt = 55295 := by decide
                          have l57344 : (57344 : Int32).toInt = 57344 := by decide
                          have l65533 : (65533 : Int32).toInt = 65533 := by decide
                          have l65536 : (65536 : Int32).toInt = 65536 := by decide
                          have l1114111 : (1114111 : Int32).toInt = 1114111 := by decide
                          simp only [Int32.lt_iff_toInt_lt, ← Int32.toInt_inj, l9, l10, l13, l32, l55295, l57344, l65533, l65536, l1114111] at hc3_1 hc9_2 hc15_3 hc21_4 hc27_11 hc33_12 hc39_15 hc45_16 hc51_17
                          rw [own_can, if_neg (by omega)], rfl, eT⟩
                  · refine own_icmpN X hx hby d_prog_20_method_2_code_51 (flt hc51_17).2.2.1 (pc' := 54) rfl ?_
                    refine own_iconst X hx hby d_prog_20_method_2_code_54 (v := (1 : Int32)) rfl (pc' := 55) rfl ?_
                    refine own_goto X hx hby d_prog_20_method_2_code_55 (by decide) (pc' := 59) (by decide) ?_
                    exact own_retN X hx hby fin hret (by simp) rfl d_prog_20_method_2_code_59 (by decide) (by decide) ⟨by
                          have l9 : (9 : Int32).toInt = 9 := by decide
                          have l10 : (10 : Int32).toInt = 10 := by decide
                          have l13 : (13 : Int32).toInt = 13 := by decide
                          have l32 : (32 : Int32).toInt = 32 := by decide
                          have l55295 : (55295 : Int32).toInt = 55295 := by decide
                          have l57344 : (57344 : Int32).toInt = 57344 := by decide
                          have l65533 : (65533 : Int32).toInt = 65533 := by decide
                          have l65536 : (65536 : Int32).toInt = 65536 := by decide
                          have l1114111 : (1114111 : Int32).toInt = 1114111 := by decide
                          simp only [Int32.lt_iff_toInt_lt, ← Int32.toInt_inj, l9, l10, l13, l32, l55295, l57344, l65533, l65536, l1114111] at hc3_1 hc9_2 hc15_3 hc21_4 hc27_11 hc33_12 hc39_15 hc45_16 hc51_17
                          rw [own_can, if_pos (by omega)], rfl, eT⟩
              · refine own_icmpY X hx hby d_prog_20_method_2_code_39 (flt hc39_15).2.2.2 (by decide) (pc' := 54) (by decide) ?_
                refine own_iconst X hx hby d_prog_20_method_2_code_54 (v := (1 : Int32)) rfl (pc' := 55) rfl ?_
                refine own_goto X hx hby d_prog_20_method_2_code_55 (by decide) (pc' := 59) (by decide) ?_
                exact own_retN X hx hby fin hret (by simp) rfl d_prog_20_method_2_code_59 (by decide) (by decide) ⟨by
                      have l9 : (9 : Int32).toInt = 9 := by decide
                      have l10 : (10 : Int32).toInt = 10 := by decide
                      have l13 : (13 : Int32).toInt = 13 := by decide
                      have l32 : (32 : Int32).toInt = 32 := by decide
                      have l55295 : (55295 : Int32).toInt = 55295 := by decide
                      have l57344 : (57344 : Int32).toInt = 57344 := by decide
                      have l65533 : (65533 : Int32).toInt = 65533 := by decide
                      simp only [Int32.lt_iff_toInt_lt, ← Int32.toInt_inj, l9, l10, l13, l32, l55295, l57344, l65533] at hc3_1 hc9_2 hc15_3 hc21_4 hc27_11 hc33_12 hc39_15
                      rw [own_can, if_pos (by omega)], rfl, eT⟩
          · refine own_icmpY X hx hby d_prog_20_method_2_code_27 (flt hc27_11).2.2.2 (by decide) (pc' := 54) (by decide) ?_
            refine own_iconst X hx hby d_prog_20_method_2_code_54 (v := (1 : Int32)) rfl (pc' := 55) rfl ?_
            refine own_goto X hx hby d_prog_20_method_2_code_55 (by decide) (pc' := 59) (by decide) ?_
            exact own_retN X hx hby fin hret (by simp) rfl d_prog_20_method_2_code_59 (by decide) (by decide) ⟨by
                  have l9 : (9 : Int32).toInt = 9 := by decide
                  have l10 : (10 : Int32).toInt = 10 := by decide
                  have l13 : (13 : Int32).toInt = 13 := by decide
                  have l32 : (32 : Int32).toInt = 32 := by decide
                  have l55295 : (55295 : Int32).toInt = 55295 := by decide
                  simp only [Int32.lt_iff_toInt_lt, ← Int32.toInt_inj, l9, l10, l13, l32, l55295] at hc3_1 hc9_2 hc15_3 hc21_4 hc27_11
                  rw [own_can, if_pos (by omega)], rfl, eT⟩
theorem ef_rmR (m : MethodId) (x0 : Int32) : entryFrame m #[(.int x0)] 1 = mkF m 0 #[.val (.int x0)] [] := by first | (simp [entryFrame, mkF, argsToLocals, Value.category]; done) | rfl
theorem pn_com_example_tracemass_tracemass_inputs_XmlDocumentCanHoldPinLaw : plainName "com/example/tracemass/tracemass/inputs/XmlDocumentCanHoldPinLaw" = true := by first | (simp [plainName, overriddenIn]; done) | decide +kernel
theorem d_method_2_code_0 : decode method_2_code 0 = .ok (.iload_n 0, 1) := by decide +kernel
theorem d_method_2_code_1 : decode method_2_code 1 = .ok (.ifCond .lt 9, 3) := by decide +kernel
theorem d_method_2_code_10 : decode method_2_code 10 = .ok (.iconst 0, 1) := by decide +kernel
theorem d_method_2_code_11 : decode method_2_code 11 = .ok (.ireturn, 1) := by decide +kernel
theorem d_method_2_code_4 : decode method_2_code 4 = .ok (.iload_n 0, 1) := by decide +kernel
theorem d_method_2_code_5 : decode method_2_code 5 = .ok (.ldc 7, 2) := by decide +kernel
theorem d_method_2_code_7 : decode method_2_code 7 = .ok (.if_icmp .le 5, 3) := by decide +kernel
theorem d_method_2_code_12 : decode method_2_code 12 = .ok (.iload_n 0, 1) := by decide +kernel
theorem d_method_2_code_13 : decode method_2_code 13 = .ok (.bipush 32, 2) := by decide +kernel
theorem d_method_2_code_15 : decode method_2_code 15 = .ok (.if_icmp .ge 27, 3) := by decide +kernel
theorem d_method_2_code_18 : decode method_2_code 18 = .ok (.iload_n 0, 1) := by decide +kernel
theorem d_method_2_code_19 : decode method_2_code 19 = .ok (.bipush 9, 2) := by decide +kernel
theorem d_method_2_code_21 : decode method_2_code 21 = .ok (.if_icmp .eq 15, 3) := by decide +kernel
theorem d_method_2_code_36 : decode method_2_code 36 = .ok (.iconst 1, 1) := by decide +kernel
theorem d_method_2_code_37 : decode method_2_code 37 = .ok (.goto 4, 3) := by decide +kernel
theorem d_method_2_code_41 : decode method_2_code 41 = .ok (.ireturn, 1) := by decide +kernel
theorem d_method_2_code_24 : decode method_2_code 24 = .ok (.iload_n 0, 1) := by decide +kernel
theorem d_method_2_code_25 : decode method_2_code 25 = .ok (.bipush 10, 2) := by decide +kernel
theorem d_method_2_code_27 : decode method_2_code 27 = .ok (.if_icmp .eq 9, 3) := by decide +kernel
theorem d_method_2_code_30 : decode method_2_code 30 = .ok (.iload_n 0, 1) := by decide +kernel
theorem d_method_2_code_31 : decode method_2_code 31 = .ok (.bipush 13, 2) := by decide +kernel
theorem d_method_2_code_33 : decode method_2_code 33 = .ok (.if_icmp .ne 7, 3) := by decide +kernel
theorem d_method_2_code_40 : decode method_2_code 40 = .ok (.iconst 0, 1) := by decide +kernel
theorem d_method_2_code_42 : decode method_2_code 42 = .ok (.iload_n 0, 1) := by decide +kernel
theorem d_method_2_code_43 : decode method_2_code 43 = .ok (.ldc 8, 2) := by decide +kernel
theorem d_method_2_code_45 : decode method_2_code 45 = .ok (.if_icmp .lt 11, 3) := by decide +kernel
theorem d_method_2_code_56 : decode method_2_code 56 = .ok (.iload_n 0, 1) := by decide +kernel
theorem d_method_2_code_57 : decode method_2_code 57 = .ok (.ldc 10, 2) := by decide +kernel
theorem d_method_2_code_59 : decode method_2_code 59 = .ok (.if_icmp .eq 9, 3) := by decide +kernel
theorem d_method_2_code_68 : decode method_2_code 68 = .ok (.iconst 0, 1) := by decide +kernel
theorem d_method_2_code_69 : decode method_2_code 69 = .ok (.ireturn, 1) := by decide +kernel
theorem d_method_2_code_62 : decode method_2_code 62 = .ok (.iload_n 0, 1) := by decide +kernel
theorem d_method_2_code_63 : decode method_2_code 63 = .ok (.ldc 11, 2) := by decide +kernel
theorem d_method_2_code_65 : decode method_2_code 65 = .ok (.if_icmp .ne 5, 3) := by decide +kernel
theorem d_method_2_code_70 : decode method_2_code 70 = .ok (.iconst 1, 1) := by decide +kernel
theorem d_method_2_code_71 : decode method_2_code 71 = .ok (.ireturn, 1) := by decide +kernel
theorem d_method_2_code_48 : decode method_2_code 48 = .ok (.iload_n 0, 1) := by decide +kernel
theorem d_method_2_code_49 : decode method_2_code 49 = .ok (.ldc 9, 2) := by decide +kernel
theorem d_method_2_code_51 : decode method_2_code 51 = .ok (.if_icmp .gt 5, 3) := by decide +kernel
theorem d_method_2_code_54 : decode method_2_code 54 = .ok (.iconst 0, 1) := by decide +kernel
theorem d_method_2_code_55 : decode method_2_code 55 = .ok (.ireturn, 1) := by decide +kernel
set_option maxRecDepth 65536 in
set_option maxHeartbeats 40000000 in
theorem rmR (l : Launch) (Z : State) (a0 : Array Value) (hw : ∀ d ∈ tables_1, d.before a0 Z = true) (p1 : Int32) (h0 : Heap)  : Con l Z (⟨"com/example/tracemass/tracemass/inputs/XmlDocumentCanHoldPinLaw", "reference", "(I)Z"⟩ : MethodName) method_2_code 1 (some .boolean) [] ({ frames := 0, cells := 0, slots := 0, locals := 0 } : Room) #[(.int p1)] h0 (fun v h L => v = some (.int (own_can p1)) ∧ L = [] ∧ h = h0) := by
  refine Con.of pn_com_example_tracemass_tracemass_inputs_XmlDocumentCanHoldPinLaw ?_
  intro p e s m below meth c T X hx hby hml hown hnm hret eT hZ hsh Φ fin
  replace hown : s.vm.findClass "com/example/tracemass/tracemass/inputs/XmlDocumentCanHoldPinLaw" = some m.cls := hown
  replace hml : 1 = c.maxLocals := hml.symm
  refine own_step (fun t k => castTop (ef_rmR m p1) k) ?_
  refine own_iloadN X hx hby d_method_2_code_0 rfl (pc' := 1) rfl ?_
  by_cases hc1_1 : p1 < (0 : Int32)
  · refine own_ifY X hx hby d_method_2_code_1 ((if0 _ _).trans (tlt hc1_1).1) (by decide) (pc' := 10) (by decide) ?_
    refine own_iconst X hx hby d_method_2_code_10 (v := (0 : Int32)) rfl (pc' := 11) rfl ?_
    exact own_retN X hx hby fin hret (by simp) rfl d_method_2_code_11 (by decide) (by decide) ⟨by
          have l0 : (0 : Int32).toInt = 0 := by decide
          simp only [Int32.lt_iff_toInt_lt, ← Int32.toInt_inj, l0] at hc1_1
          rw [own_can, if_neg (by omega)], rfl, eT⟩
  · refine own_ifN X hx hby d_method_2_code_1 ((if0 _ _).trans (flt hc1_1).1) (pc' := 4) rfl ?_
    refine own_iloadN X hx hby d_method_2_code_4 rfl (pc' := 5) rfl ?_
    refine own_ldcI X hx hby hZ hown (own_w hw 9 rfl) d_method_2_code_5 (pc' := 7) rfl ?_
    by_cases hc7_2 : (1114111 : Int32) < p1
    · refine own_icmpN X hx hby d_method_2_code_7 (tlt hc7_2).2.2.2 (pc' := 10) rfl ?_
      refine own_iconst X hx hby d_method_2_code_10 (v := (0 : Int32)) rfl (pc' := 11) rfl ?_
      exact own_retN X hx hby fin hret (by simp) rfl d_method_2_code_11 (by decide) (by decide) ⟨by
            have l0 : (0 : Int32).toInt = 0 := by decide
            have l1114111 : (1114111 : Int32).toInt = 1114111 := by decide
            simp only [Int32.lt_iff_toInt_lt, ← Int32.toInt_inj, l0, l1114111] at hc1_1 hc7_2
            rw [own_can, if_neg (by omega)], rfl, eT⟩
    · refine own_icmpY X hx hby d_method_2_code_7 (flt hc7_2).2.2.2 (by decide) (pc' := 12) (by decide) ?_
      refine own_iloadN X hx hby d_method_2_code_12 rfl (pc' := 13) rfl ?_
      refine own_bipush X hx hby d_method_2_code_13 (v := (32 : Int32)) rfl (pc' := 15) rfl ?_
      by_cases hc15_3 : p1 < (32 : Int32)
      · refine own_icmpN X hx hby d_method_2_code_15 (tlt hc15_3).2.1 (pc' := 18) rfl ?_
        refine own_iloadN X hx hby d_method_2_code_18 rfl (pc' := 19) rfl ?_
        refine own_bipush X hx hby d_method_2_code_19 (v := (9 : Int32)) rfl (pc' := 21) rfl ?_
        by_cases hc21_4 : p1 = (9 : Int32)
        · refine own_icmpY X hx hby d_method_2_code_21 (teq hc21_4).1 (by decide) (pc' := 36) (by decide) ?_
          refine own_iconst X hx hby d_method_2_code_36 (v := (1 : Int32)) rfl (pc' := 37) rfl ?_
          refine own_goto X hx hby d_method_2_code_37 (by decide) (pc' := 41) (by decide) ?_
          exact own_retN X hx hby fin hret (by simp) rfl d_method_2_code_41 (by decide) (by decide) ⟨by
                have l0 : (0 : Int32).toInt = 0 := by decide
                have l9 : (9 : Int32).toInt = 9 := by decide
                have l32 : (32 : Int32).toInt = 32 := by decide
                have l1114111 : (1114111 : Int32).toInt = 1114111 := by decide
                simp only [Int32.lt_iff_toInt_lt, ← Int32.toInt_inj, l0, l9, l32, l1114111] at hc1_1 hc7_2 hc15_3 hc21_4
                rw [own_can, if_pos (by omega)], rfl, eT⟩
        · refine own_icmpN X hx hby d_method_2_code_21 (feq hc21_4).1 (pc' := 24) rfl ?_
          refine own_iloadN X hx hby d_method_2_code_24 rfl (pc' := 25) rfl ?_
          refine own_bipush X hx hby d_method_2_code_25 (v := (10 : Int32)) rfl (pc' := 27) rfl ?_
          by_cases hc27_5 : p1 = (10 : Int32)
          · refine own_icmpY X hx hby d_method_2_code_27 (teq hc27_5).1 (by decide) (pc' := 36) (by decide) ?_
            refine own_iconst X hx hby d_method_2_code_36 (v := (1 : Int32)) rfl (pc' := 37) rfl ?_
            refine own_goto X hx hby d_method_2_code_37 (by decide) (pc' := 41) (by decide) ?_
            exact own_retN X hx hby fin hret (by simp) rfl d_method_2_code_41 (by decide) (by decide) ⟨by
                  have l0 : (0 : Int32).toInt = 0 := by decide
                  have l9 : (9 : Int32).toInt = 9 := by decide
                  have l10 : (10 : Int32).toInt = 10 := by decide
                  have l32 : (32 : Int32).toInt = 32 := by decide
                  have l1114111 : (1114111 : Int32).toInt = 1114111 := by decide
                  simp only [Int32.lt_iff_toInt_lt, ← Int32.toInt_inj, l0, l9, l10, l32, l1114111] at hc1_1 hc7_2 hc15_3 hc21_4 hc27_5
                  rw [own_can, if_pos (by omega)], rfl, eT⟩
          · refine own_icmpN X hx hby d_method_2_code_27 (feq hc27_5).1 (pc' := 30) rfl ?_
            refine own_iloadN X hx hby d_method_2_code_30 rfl (pc' := 31) rfl ?_
            refine own_bipush X hx hby d_method_2_code_31 (v := (13 : Int32)) rfl (pc' := 33) rfl ?_
            by_cases hc33_6 : p1 = (13 : Int32)
            · refine own_icmpN X hx hby d_method_2_code_33 (teq hc33_6).2 (pc' := 36) rfl ?_
              refine own_iconst X hx hby d_method_2_code_36 (v := (1 : Int32)) rfl (pc' := 37) rfl ?_
              refine own_goto X hx hby d_method_2_code_37 (by decide) (pc' := 41) (by decide) ?_
              exact own_retN X hx hby fin hret (by simp) rfl d_method_2_code_41 (by decide) (by decide) ⟨by
                    have l0 : (0 : Int32).toInt = 0 := by decide
                    have l9 : (9 : Int32).toInt = 9 := by decide
                    have l10 : (10 : Int32).toInt = 10 := by decide
                    have l13 : (13 : Int32).toInt = 13 := by decide
                    have l32 : (32 : Int32).toInt = 32 := by decide
                    have l1114111 : (1114111 : Int32).toInt = 1114111 := by decide
                    simp only [Int32.lt_iff_toInt_lt, ← Int32.toInt_inj, l0, l9, l10, l13, l32, l1114111] at hc1_1 hc7_2 hc15_3 hc21_4 hc27_5 hc33_6
                    rw [own_can, if_pos (by omega)], rfl, eT⟩
            · refine own_icmpY X hx hby d_method_2_code_33 (feq hc33_6).2 (by decide) (pc' := 40) (by decide) ?_
              refine own_iconst X hx hby d_method_2_code_40 (v := (0 : Int32)) rfl (pc' := 41) rfl ?_
              exact own_retN X hx hby fin hret (by simp) rfl d_method_2_code_41 (by decide) (by decide) ⟨by
                    have l0 : (0 : Int32).toInt = 0 := by decide
                    have l9 : (9 : Int32).toInt = 9 := by decide
                    have l10 : (10 : Int32).toInt = 10 := by decide
                    have l13 : (13 : Int32).toInt = 13 := by decide
                    have l32 : (32 : Int32).toInt = 32 := by decide
                    have l1114111 : (1114111 : Int32).toInt = 1114111 := by decide
                    simp only [Int32.lt_iff_toInt_lt, ← Int32.toInt_inj, l0, l9, l10, l13, l32, l1114111] at hc1_1 hc7_2 hc15_3 hc21_4 hc27_5 hc33_6
                    rw [own_can, if_neg (by omega)], rfl, eT⟩
      · refine own_icmpY X hx hby d_method_2_code_15 (flt hc15_3).2.1 (by decide) (pc' := 42) (by decide) ?_
        refine own_iloadN X hx hby d_method_2_code_42 rfl (pc' := 43) rfl ?_
        refine own_ldcI X hx hby hZ hown (own_w hw 2 rfl) d_method_2_code_43 (pc' := 45) rfl ?_
        by_cases hc45_7 : p1 < (55296 : Int32)
        · refine own_icmpY X hx hby d_method_2_code_45 (tlt hc45_7).1 (by decide) (pc' := 56) (by decide) ?_
          refine own_iloadN X hx hby d_method_2_code_56 rfl (pc' := 57) rfl ?_
          refine own_ldcI X hx hby hZ hown (own_w hw 6 rfl) d_method_2_code_57 (pc' := 59) rfl ?_
          by_cases hc59_8 : p1 = (65534 : Int32)
          · refine own_icmpY X hx hby d_method_2_code_59 (teq hc59_8).1 (by decide) (pc' := 68) (by decide) ?_
            refine own_iconst X hx hby d_method_2_code_68 (v := (0 : Int32)) rfl (pc' := 69) rfl ?_
            exact own_retN X hx hby fin hret (by simp) rfl d_method_2_code_69 (by decide) (by decide) ⟨by
                  have l0 : (0 : Int32).toInt = 0 := by decide
                  have l32 : (32 : Int32).toInt = 32 := by decide
                  have l55296 : (55296 : Int32).toInt = 55296 := by decide
                  have l65534 : (65534 : Int32).toInt = 65534 := by decide
                  have l1114111 : (1114111 : Int32).toInt = 1114111 := by decide
                  simp only [Int32.lt_iff_toInt_lt, ← Int32.toInt_inj, l0, l32, l55296, l65534, l1114111] at hc1_1 hc7_2 hc15_3 hc45_7 hc59_8
                  rw [own_can, if_neg (by omega)], rfl, eT⟩
          · refine own_icmpN X hx hby d_method_2_code_59 (feq hc59_8).1 (pc' := 62) rfl ?_
            refine own_iloadN X hx hby d_method_2_code_62 rfl (pc' := 63) rfl ?_
            refine own_ldcI X hx hby hZ hown (own_w hw 7 rfl) d_method_2_code_63 (pc' := 65) rfl ?_
            by_cases hc65_9 : p1 = (65535 : Int32)
            · refine own_icmpN X hx hby d_method_2_code_65 (teq hc65_9).2 (pc' := 68) rfl ?_
              refine own_iconst X hx hby d_method_2_code_68 (v := (0 : Int32)) rfl (pc' := 69) rfl ?_
              exact own_retN X hx hby fin hret (by simp) rfl d_method_2_code_69 (by decide) (by decide) ⟨by
                    have l0 : (0 : Int32).toInt = 0 := by decide
                    have l32 : (32 : Int32).toInt = 32 := by decide
                    have l55296 : (55296 : Int32).toInt = 55296 := by decide
                    have l65534 : (65534 : Int32).toInt = 65534 := by decide
                    have l65535 : (65535 : Int32).toInt = 65535 := by decide
                    have l1114111 : (1114111 : Int32).toInt = 1114111 := by decide
                    simp only [Int32.lt_iff_toInt_lt, ← Int32.toInt_inj, l0, l32, l55296, l65534, l65535, l1114111] at hc1_1 hc7_2 hc15_3 hc45_7 hc59_8 hc65_9
                    rw [own_can, if_neg (by omega)], rfl, eT⟩
            · refine own_icmpY X hx hby d_method_2_code_65 (feq hc65_9).2 (by decide) (pc' := 70) (by decide) ?_
              refine own_iconst X hx hby d_method_2_code_70 (v := (1 : Int32)) rfl (pc' := 71) rfl ?_
              exact own_retN X hx hby fin hret (by simp) rfl d_method_2_code_71 (by decide) (by decide) ⟨by
                    have l0 : (0 : Int32).toInt = 0 := by decide
                    have l32 : (32 : Int32).toInt = 32 := by decide
                    have l55296 : (55296 : Int32).toInt = 55296 := by decide
                    have l65534 : (65534 : Int32).toInt = 65534 := by decide
                    have l65535 : (65535 : Int32).toInt = 65535 := by decide
                    have l1114111 : (1114111 : Int32).toInt = 1114111 := by decide
                    simp only [Int32.lt_iff_toInt_lt, ← Int32.toInt_inj, l0, l32, l55296, l65534, l65535, l1114111] at hc1_1 hc7_2 hc15_3 hc45_7 hc59_8 hc65_9
                    rw [own_can, if_pos (by omega)], rfl, eT⟩
        · refine own_icmpN X hx hby d_method_2_code_45 (flt hc45_7).1 (pc' := 48) rfl ?_
          refine own_iloadN X hx hby d_method_2_code_48 rfl (pc' := 49) rfl ?_
          refine own_ldcI X hx hby hZ hown (own_w hw 3 rfl) d_method_2_code_49 (pc' := 51) rfl ?_
          by_cases hc51_10 : (57343 : Int32) < p1
          · refine own_icmpY X hx hby d_method_2_code_51 (tlt hc51_10).2.2.1 (by decide) (pc' := 56) (by decide) ?_
            refine own_iloadN X hx hby d_method_2_code_56 rfl (pc' := 57) rfl ?_
            refine own_ldcI X hx hby hZ hown (own_w hw 6 rfl) d_method_2_code_57 (pc' := 59) rfl ?_
            by_cases hc59_11 : p1 = (65534 : Int32)
            · refine own_icmpY X hx hby d_method_2_code_59 (teq hc59_11).1 (by decide) (pc' := 68) (by decide) ?_
              refine own_iconst X hx hby d_method_2_code_68 (v := (0 : Int32)) rfl (pc' := 69) rfl ?_
              exact own_retN X hx hby fin hret (by simp) rfl d_method_2_code_69 (by decide) (by decide) ⟨by
                    have l0 : (0 : Int32).toInt = 0 := by decide
                    have l32 : (32 : Int32).toInt = 32 := by decide
                    have l55296 : (55296 : Int32).toInt = 55296 := by decide
                    have l57343 : (57343 : Int32).toInt = 57343 := by decide
                    have l65534 : (65534 : Int32).toInt = 65534 := by decide
                    have l1114111 : (1114111 : Int32).toInt = 1114111 := by decide
                    simp only [Int32.lt_iff_toInt_lt, ← Int32.toInt_inj, l0, l32, l55296, l57343, l65534, l1114111] at hc1_1 hc7_2 hc15_3 hc45_7 hc51_10 hc59_11
                    rw [own_can, if_neg (by omega)], rfl, eT⟩
            · refine own_icmpN X hx hby d_method_2_code_59 (feq hc59_11).1 (pc' := 62) rfl ?_
              refine own_iloadN X hx hby d_method_2_code_62 rfl (pc' := 63) rfl ?_
              refine own_ldcI X hx hby hZ hown (own_w hw 7 rfl) d_method_2_code_63 (pc' := 65) rfl ?_
              by_cases hc65_12 : p1 = (65535 : Int32)
              · refine own_icmpN X hx hby d_method_2_code_65 (teq hc65_12).2 (pc' := 68) rfl ?_
                refine own_iconst X hx hby d_method_2_code_68 (v := (0 : Int32)) rfl (pc' := 69) rfl ?_
                exact own_retN X hx hby fin hret (by simp) rfl d_method_2_code_69 (by decide) (by decide) ⟨by
                      have l0 : (0 : Int32).toInt = 0 := by decide
                      have l32 : (32 : Int32).toInt = 32 := by decide
                      have l55296 : (55296 : Int32).toInt = 55296 := by decide
                      have l57343 : (57343 : Int32).toInt = 57343 := by decide
                      have l65534 : (65534 : Int32).toInt = 65534 := by decide
                      have l65535 : (65535 : Int32).toInt = 65535 := by decide
                      have l1114111 : (1114111 : Int32).toInt = 1114111 := by decide
                      simp only [Int32.lt_iff_toInt_lt, ← Int32.toInt_inj, l0, l32, l55296, l57343, l65534, l65535, l1114111] at hc1_1 hc7_2 hc15_3 hc45_7 hc51_10 hc59_11 hc65_12
                      rw [own_can, if_neg (by omega)], rfl, eT⟩
              · refine own_icmpY X hx hby d_method_2_code_65 (feq hc65_12).2 (by decide) (pc' := 70) (by decide) ?_
                refine own_iconst X hx hby d_method_2_code_70 (v := (1 : Int32)) rfl (pc' := 71) rfl ?_
                exact own_retN X hx hby fin hret (by simp) rfl d_method_2_code_71 (by decide) (by decide) ⟨by
                      have l0 : (0 : Int32).toInt = 0 := by decide
                      have l32 : (32 : Int32).toInt = 32 := by decide
                      have l55296 : (55296 : Int32).toInt = 55296 := by decide
                      have l57343 : (57343 : Int32).toInt = 57343 := by decide
                      have l65534 : (65534 : Int32).toInt = 65534 := by decide
                      have l65535 : (65535 : Int32).toInt = 65535 := by decide
                      have l1114111 : (1114111 : Int32).toInt = 1114111 := by decide
                      simp only [Int32.lt_iff_toInt_lt, ← Int32.toInt_inj, l0, l32, l55296, l57343, l65534, l65535, l1114111] at hc1_1 hc7_2 hc15_3 hc45_7 hc51_10 hc59_11 hc65_12
                      rw [own_can, if_pos (by omega)], rfl, eT⟩
          · refine own_icmpN X hx hby d_method_2_code_51 (flt hc51_10).2.2.1 (pc' := 54) rfl ?_
            refine own_iconst X hx hby d_method_2_code_54 (v := (0 : Int32)) rfl (pc' := 55) rfl ?_
            exact own_retN X hx hby fin hret (by simp) rfl d_method_2_code_55 (by decide) (by decide) ⟨by
                  have l0 : (0 : Int32).toInt = 0 := by decide
                  have l32 : (32 : Int32).toInt = 32 := by decide
                  have l55296 : (55296 : Int32).toInt = 55296 := by decide
                  have l57343 : (57343 : Int32).toInt = 57343 := by decide
                  have l1114111 : (1114111 : Int32).toInt = 1114111 := by decide
                  simp only [Int32.lt_iff_toInt_lt, ← Int32.toInt_inj, l0, l32, l55296, l57343, l1114111] at hc1_1 hc7_2 hc15_3 hc45_7 hc51_10
                  rw [own_can, if_neg (by omega)], rfl, eT⟩
theorem ef_rm0 (m : MethodId) (x0 : Int32) (x1 : Int32) (x2 : Int32) : entryFrame m #[(.int x0), (.int x1), (.int x2)] maxLocals = mkF m 0 #[.val (.int x0), .val (.int x1), .val (.int x2), .unset, .unset, .unset, .unset] [] := by first | (simp [entryFrame, mkF, argsToLocals, Value.category, maxLocals]; done) | rfl
theorem own_idx (p : Int32) : ¬ ((p &&& (2147483647 : Int32)) % (23 : Int32)) < 0 ∧ ((p &&& (2147483647 : Int32)) % (23 : Int32)) < (23 : Int32) := by
  have a := c_mask p 2147483647 31 (by decide) (by decide)
  have b := (c_irem (p &&& (2147483647 : Int32)) 23 23 (by decide)).1 (by omega)
  have e0 : (0 : Int32).toInt = 0 := by decide
  have e1 : (23 : Int32).toInt = 23 := by decide
  rw [Int32.lt_iff_toInt_lt, Int32.lt_iff_toInt_lt, e0, e1]
  omega
theorem pd__I_Z : parseMethodDescriptor "(I)Z" = some ⟨[.int], some .boolean⟩ := by decide +kernel
set_option maxRecDepth 65536 in
set_option maxHeartbeats 40000000 in
theorem rm0 (l : Launch) (Z : State) (a0 : Array Value) (hw : ∀ d ∈ tables_1, d.before a0 Z = true) (p1 p2 p3 : Int32) (n0 : Nat) (h0 : Heap) (Z0 : n0 ≤ h0.size) : Con l Z x code maxLocals ret tables_1 room_1 #[(.int p1), (.int p2), (.int p3)] h0 (fun v h L => v = some (.int 1) ∧ Fr n0 L) := by
  refine Con.of pn_com_example_tracemass_tracemass_inputs_XmlDocumentCanHoldPinLaw ?_
  intro p e s m below meth c T X hx hby hml hown hnm hret eT hZ hsh Φ fin
  replace hown : s.vm.findClass "com/example/tracemass/tracemass/inputs/XmlDocumentCanHoldPinLaw" = some m.cls := hown
  replace hml : 7 = c.maxLocals := hml.symm
  refine own_step (fun t k => castTop (ef_rm0 m p1 p2 p3) k) ?_
  replace hret : meth.sig.returnType = (some .boolean) := hret
  have N0 := Fr.nil n0
  refine own_bipush X hx hby at_0 (v := (23 : Int32)) rfl (pc' := 2) rfl ?_
  obtain ⟨T1, h1, k1, X1, e1, E1, A1, st1⟩ := newP X hx hZ (own_w hw 0 rfl) eT (g := (mkF m 2 #[.val (.int p1), .val (.int p2), .val (.int p3), .unset, .unset, .unset, .unset] [(.int (23 : Int32))])) rfl (hb hby at_2) rfl (by decide) (cap := 23) (by decide) (by decide) (by decide) (by decide)
  obtain ⟨b1, g1⟩ : ∃ z, z = h0.size := ⟨_, rfl⟩
  have Z1 : n0 ≤ h1.size := Nat.le_trans Z0 E1.1
  have n0_b1 : n0 ≤ b1 := g1 ▸ Z0
  rw [← g1] at A1 st1
  refine own_step st1 ?_
  have I1 : IA Z h1 b1 (23 : Int32) := IA.new A1 (by decide)
  show GoP p e below Φ (T1.setTop (mkF m 4 #[.val (.int p1), .val (.int p2), .val (.int p3), .unset, .unset, .unset, .unset] [(.ref b1)]))
  refine own_dup X1 hx hby at_4 rfl (pc' := 5) rfl ?_
  refine own_iconst X1 hx hby at_5 (v := (0 : Int32)) rfl (pc' := 6) rfl ?_
  refine own_iconst X1 hx hby at_6 (v := (0 : Int32)) rfl (pc' := 7) rfl ?_
  refine own_iastoreA X1 hx hby hZ e1 I1 (by decide) at_7 (pc' := 8) rfl ?_
  intro T2 h2 X2 e2 W2 I2
  have Z2 : n0 ≤ h2.size := by rw [W2.size]; exact Z1
  have N2 := Fr.snoc X2 N0 n0_b1
  refine own_dup X2 hx hby at_8 rfl (pc' := 9) rfl ?_
  refine own_iconst X2 hx hby at_9 (v := (1 : Int32)) rfl (pc' := 10) rfl ?_
  refine own_bipush X2 hx hby at_10 (v := (9 : Int32)) rfl (pc' := 12) rfl ?_
  refine own_iastoreA X2 hx hby hZ e2 I2 (by decide) at_12 (pc' := 13) rfl ?_
  intro T3 h3 X3 e3 W3 I3
  have Z3 : n0 ≤ h3.size := by rw [W3.size]; exact Z2
  have N3 := Fr.snoc X3 N2 n0_b1
  refine own_dup X3 hx hby at_13 rfl (pc' := 14) rfl ?_
  refine own_iconst X3 hx hby at_14 (v := (2 : Int32)) rfl (pc' := 15) rfl ?_
  refine own_bipush X3 hx hby at_15 (v := (10 : Int32)) rfl (pc' := 17) rfl ?_
  refine own_iastoreA X3 hx hby hZ e3 I3 (by decide) at_17 (pc' := 18) rfl ?_
  intro T4 h4 X4 e4 W4 I4
  have Z4 : n0 ≤ h4.size := by rw [W4.size]; exact Z3
  have N4 := Fr.snoc X4 N3 n0_b1
  refine own_dup X4 hx hby at_18 rfl (pc' := 19) rfl ?_
  refine own_iconst X4 hx hby at_19 (v := (3 : Int32)) rfl (pc' := 20) rfl ?_
  refine own_bipush X4 hx hby at_20 (v := (13 : Int32)) rfl (pc' := 22) rfl ?_
  refine own_iastoreA X4 hx hby hZ e4 I4 (by decide) at_22 (pc' := 23) rfl ?_
  intro T5 h5 X5 e5 W5 I5
  have Z5 : n0 ≤ h5.size := by rw [W5.size]; exact Z4
  have N5 := Fr.snoc X5 N4 n0_b1
  refine own_dup X5 hx hby at_23 rfl (pc' := 24) rfl ?_
  refine own_iconst X5 hx hby at_24 (v := (4 : Int32)) rfl (pc' := 25) rfl ?_
  refine own_bipush X5 hx hby at_25 (v := (31 : Int32)) rfl (pc' := 27) rfl ?_
  refine own_iastoreA X5 hx hby hZ e5 I5 (by decide) at_27 (pc' := 28) rfl ?_
  intro T6 h6 X6 e6 W6 I6
  have Z6 : n0 ≤ h6.size := by rw [W6.size]; exact Z5
  have N6 := Fr.snoc X6 N5 n0_b1
  refine own_dup X6 hx hby at_28 rfl (pc' := 29) rfl ?_
  refine own_iconst X6 hx hby at_29 (v := (5 : Int32)) rfl (pc' := 30) rfl ?_
  refine own_bipush X6 hx hby at_30 (v := (32 : Int32)) rfl (pc' := 32) rfl ?_
  refine own_iastoreA X6 hx hby hZ e6 I6 (by decide) at_32 (pc' := 33) rfl ?_
  intro T7 h7 X7 e7 W7 I7
  have Z7 : n0 ≤ h7.size := by rw [W7.size]; exact Z6
  have N7 := Fr.snoc X7 N6 n0_b1
  refine own_dup X7 hx hby at_33 rfl (pc' := 34) rfl ?_
  refine own_bipush X7 hx hby at_34 (v := (6 : Int32)) rfl (pc' := 36) rfl ?_
  refine own_bipush X7 hx hby at_36 (v := (127 : Int32)) rfl (pc' := 38) rfl ?_
  refine own_iastoreA X7 hx hby hZ e7 I7 (by decide) at_38 (pc' := 39) rfl ?_
  intro T8 h8 X8 e8 W8 I8
  have Z8 : n0 ≤ h8.size := by rw [W8.size]; exact Z7
  have N8 := Fr.snoc X8 N7 n0_b1
  refine own_dup X8 hx hby at_39 rfl (pc' := 40) rfl ?_
  refine own_bipush X8 hx hby at_40 (v := (7 : Int32)) rfl (pc' := 42) rfl ?_
  refine own_ldcI X8 hx hby hZ hown (own_w hw 1 rfl) at_42 (pc' := 44) rfl ?_
  refine own_iastoreA X8 hx hby hZ e8 I8 (by decide) at_44 (pc' := 45) rfl ?_
  intro T9 h9 X9 e9 W9 I9
  have Z9 : n0 ≤ h9.size := by rw [W9.size]; exact Z8
  have N9 := Fr.snoc X9 N8 n0_b1
  refine own_dup X9 hx hby at_45 rfl (pc' := 46) rfl ?_
  refine own_bipush X9 hx hby at_46 (v := (8 : Int32)) rfl (pc' := 48) rfl ?_
  refine own_ldcI X9 hx hby hZ hown (own_w hw 2 rfl) at_48 (pc' := 50) rfl ?_
  refine own_iastoreA X9 hx hby hZ e9 I9 (by decide) at_50 (pc' := 51) rfl ?_
  intro T10 h10 X10 e10 W10 I10
  have Z10 : n0 ≤ h10.size := by rw [W10.size]; exact Z9
  have N10 := Fr.snoc X10 N9 n0_b1
  refine own_dup X10 hx hby at_51 rfl (pc' := 52) rfl ?_
  refine own_bipush X10 hx hby at_52 (v := (9 : Int32)) rfl (pc' := 54) rfl ?_
  refine own_ldcI X10 hx hby hZ hown (own_w hw 3 rfl) at_54 (pc' := 56) rfl ?_
  refine own_iastoreA X10 hx hby hZ e10 I10 (by decide) at_56 (pc' := 57) rfl ?_
  intro T11 h11 X11 e11 W11 I11
  have Z11 : n0 ≤ h11.size := by rw [W11.size]; exact Z10
  have N11 := Fr.snoc X11 N10 n0_b1
  refine own_dup X11 hx hby at_57 rfl (pc' := 58) rfl ?_
  refine own_bipush X11 hx hby at_58 (v := (10 : Int32)) rfl (pc' := 60) rfl ?_
  refine own_ldcI X11 hx hby hZ hown (own_w hw 4 rfl) at_60 (pc' := 62) rfl ?_
  refine own_iastoreA X11 hx hby hZ e11 I11 (by decide) at_62 (pc' := 63) rfl ?_
  intro T12 h12 X12 e12 W12 I12
  have Z12 : n0 ≤ h12.size := by rw [W12.size]; exact Z11
  have N12 := Fr.snoc X12 N11 n0_b1
  refine own_dup X12 hx hby at_63 rfl (pc' := 64) rfl ?_
  refine own_bipush X12 hx hby at_64 (v := (11 : Int32)) rfl (pc' := 66) rfl ?_
  refine own_ldcI X12 hx hby hZ hown (own_w hw 5 rfl) at_66 (pc' := 68) rfl ?_
  refine own_iastoreA X12 hx hby hZ e12 I12 (by decide) at_68 (pc' := 69) rfl ?_
  intro T13 h13 X13 e13 W13 I13
  have Z13 : n0 ≤ h13.size := by rw [W13.size]; exact Z12
  have N13 := Fr.snoc X13 N12 n0_b1
  refine own_dup X13 hx hby at_69 rfl (pc' := 70) rfl ?_
  refine own_bipush X13 hx hby at_70 (v := (12 : Int32)) rfl (pc' := 72) rfl ?_
  refine own_ldcI X13 hx hby hZ hown (own_w hw 6 rfl) at_72 (pc' := 74) rfl ?_
  refine own_iastoreA X13 hx hby hZ e13 I13 (by decide) at_74 (pc' := 75) rfl ?_
  intro T14 h14 X14 e14 W14 I14
  have Z14 : n0 ≤ h14.size := by rw [W14.size]; exact Z13
  have N14 := Fr.snoc X14 N13 n0_b1
  refine own_dup X14 hx hby at_75 rfl (pc' := 76) rfl ?_
  refine own_bipush X14 hx hby at_76 (v := (13 : Int32)) rfl (pc' := 78) rfl ?_
  refine own_ldcI X14 hx hby hZ hown (own_w hw 7 rfl) at_78 (pc' := 80) rfl ?_
  refine own_iastoreA X14 hx hby hZ e14 I14 (by decide) at_80 (pc' := 81) rfl ?_
  intro T15 h15 X15 e15 W15 I15
  have Z15 : n0 ≤ h15.size := by rw [W15.size]; exact Z14
  have N15 := Fr.snoc X15 N14 n0_b1
  refine own_dup X15 hx hby at_81 rfl (pc' := 82) rfl ?_
  refine own_bipush X15 hx hby at_82 (v := (14 : Int32)) rfl (pc' := 84) rfl ?_
  refine own_ldcI X15 hx hby hZ hown (own_w hw 8 rfl) at_84 (pc' := 86) rfl ?_
  refine own_iastoreA X15 hx hby hZ e15 I15 (by decide) at_86 (pc' := 87) rfl ?_
  intro T16 h16 X16 e16 W16 I16
  have Z16 : n0 ≤ h16.size := by rw [W16.size]; exact Z15
  have N16 := Fr.snoc X16 N15 n0_b1
  refine own_dup X16 hx hby at_87 rfl (pc' := 88) rfl ?_
  refine own_bipush X16 hx hby at_88 (v := (15 : Int32)) rfl (pc' := 90) rfl ?_
  refine own_ldcI X16 hx hby hZ hown (own_w hw 9 rfl) at_90 (pc' := 92) rfl ?_
  refine own_iastoreA X16 hx hby hZ e16 I16 (by decide) at_92 (pc' := 93) rfl ?_
  intro T17 h17 X17 e17 W17 I17
  have Z17 : n0 ≤ h17.size := by rw [W17.size]; exact Z16
  have N17 := Fr.snoc X17 N16 n0_b1
  refine own_dup X17 hx hby at_93 rfl (pc' := 94) rfl ?_
  refine own_bipush X17 hx hby at_94 (v := (16 : Int32)) rfl (pc' := 96) rfl ?_
  refine own_ldcI X17 hx hby hZ hown (own_w hw 10 rfl) at_96 (pc' := 98) rfl ?_
  refine own_iastoreA X17 hx hby hZ e17 I17 (by decide) at_98 (pc' := 99) rfl ?_
  intro T18 h18 X18 e18 W18 I18
  have Z18 : n0 ≤ h18.size := by rw [W18.size]; exact Z17
  have N18 := Fr.snoc X18 N17 n0_b1
  refine own_dup X18 hx hby at_99 rfl (pc' := 100) rfl ?_
  refine own_bipush X18 hx hby at_100 (v := (17 : Int32)) rfl (pc' := 102) rfl ?_
  refine own_ldcI X18 hx hby hZ hown (own_w hw 11 rfl) at_102 (pc' := 104) rfl ?_
  refine own_iastoreA X18 hx hby hZ e18 I18 (by decide) at_104 (pc' := 105) rfl ?_
  intro T19 h19 X19 e19 W19 I19
  have Z19 : n0 ≤ h19.size := by rw [W19.size]; exact Z18
  have N19 := Fr.snoc X19 N18 n0_b1
  refine own_dup X19 hx hby at_105 rfl (pc' := 106) rfl ?_
  refine own_bipush X19 hx hby at_106 (v := (18 : Int32)) rfl (pc' := 108) rfl ?_
  refine own_ldcI X19 hx hby hZ hown (own_w hw 12 rfl) at_108 (pc' := 110) rfl ?_
  refine own_iastoreA X19 hx hby hZ e19 I19 (by decide) at_110 (pc' := 111) rfl ?_
  intro T20 h20 X20 e20 W20 I20
  have Z20 : n0 ≤ h20.size := by rw [W20.size]; exact Z19
  have N20 := Fr.snoc X20 N19 n0_b1
  refine own_dup X20 hx hby at_111 rfl (pc' := 112) rfl ?_
  refine own_bipush X20 hx hby at_112 (v := (19 : Int32)) rfl (pc' := 114) rfl ?_
  refine own_bipush X20 hx hby at_114 (v := (8 : Int32)) rfl (pc' := 116) rfl ?_
  refine own_iastoreA X20 hx hby hZ e20 I20 (by decide) at_116 (pc' := 117) rfl ?_
  intro T21 h21 X21 e21 W21 I21
  have Z21 : n0 ≤ h21.size := by rw [W21.size]; exact Z20
  have N21 := Fr.snoc X21 N20 n0_b1
  refine own_dup X21 hx hby at_117 rfl (pc' := 118) rfl ?_
  refine own_bipush X21 hx hby at_118 (v := (20 : Int32)) rfl (pc' := 120) rfl ?_
  refine own_bipush X21 hx hby at_120 (v := (11 : Int32)) rfl (pc' := 122) rfl ?_
  refine own_iastoreA X21 hx hby hZ e21 I21 (by decide) at_122 (pc' := 123) rfl ?_
  intro T22 h22 X22 e22 W22 I22
  have Z22 : n0 ≤ h22.size := by rw [W22.size]; exact Z21
  have N22 := Fr.snoc X22 N21 n0_b1
  refine own_dup X22 hx hby at_123 rfl (pc' := 124) rfl ?_
  refine own_bipush X22 hx hby at_124 (v := (21 : Int32)) rfl (pc' := 126) rfl ?_
  refine own_bipush X22 hx hby at_126 (v := (12 : Int32)) rfl (pc' := 128) rfl ?_
  refine own_iastoreA X22 hx hby hZ e22 I22 (by decide) at_128 (pc' := 129) rfl ?_
  intro T23 h23 X23 e23 W23 I23
  have Z23 : n0 ≤ h23.size := by rw [W23.size]; exact Z22
  have N23 := Fr.snoc X23 N22 n0_b1
  refine own_dup X23 hx hby at_129 rfl (pc' := 130) rfl ?_
  refine own_bipush X23 hx hby at_130 (v := (22 : Int32)) rfl (pc' := 132) rfl ?_
  refine own_bipush X23 hx hby at_132 (v := (14 : Int32)) rfl (pc' := 134) rfl ?_
  refine own_iastoreA X23 hx hby hZ e23 I23 (by decide) at_134 (pc' := 135) rfl ?_
  intro T24 h24 X24 e24 W24 I24
  have Z24 : n0 ≤ h24.size := by rw [W24.size]; exact Z23
  have N24 := Fr.snoc X24 N23 n0_b1
  refine own_astoreN X24 hx hby at_135 rfl (Ls' := #[.val (.int p1), .val (.int p2), .val (.int p3), .val (.ref b1), .unset, .unset, .unset]) rfl (pc' := 136) rfl ?_
  refine own_aloadN X24 hx hby at_136 rfl rfl (pc' := 137) rfl ?_
  refine own_iloadN X24 hx hby at_137 rfl (pc' := 138) rfl ?_
  refine own_ldcI X24 hx hby hZ hown (own_w hw 12 rfl) at_138 (pc' := 140) rfl ?_
  refine own_iand X24 hx hby at_140 (pc' := 141) rfl ?_
  refine own_aloadN X24 hx hby at_141 rfl rfl (pc' := 142) rfl ?_
  refine own_alenA X24 hx hby hZ e24 I24 at_142 (pc' := 143) rfl ?_
  refine own_irem X24 hx hby at_143 (by decide) (pc' := 144) rfl ?_
  refine own_ialoadA X24 hx hby hZ e24 I24 (own_idx p2) at_144 (pc' := 145) rfl ?_
  intro w
  refine own_iloadN X24 hx hby at_145 rfl (pc' := 146) rfl ?_
  refine own_iconst X24 hx hby at_146 (v := (3 : Int32)) rfl (pc' := 147) rfl ?_
  refine own_iand X24 hx hby at_147 (pc' := 148) rfl ?_
  refine own_iconst X24 hx hby at_148 (v := (1 : Int32)) rfl (pc' := 149) rfl ?_
  refine own_isub X24 hx hby at_149 (pc' := 150) rfl ?_
  refine own_iadd X24 hx hby at_150 (pc' := 151) rfl ?_
  refine own_istore X24 hx hby at_151  (Ls' := #[.val (.int p1), .val (.int p2), .val (.int p3), .val (.ref b1), .val (.int (w + ((p3 &&& (3 : Int32)) - (1 : Int32)))), .unset, .unset]) rfl (pc' := 153) rfl ?_
  generalize (w + ((p3 &&& (3 : Int32)) - (1 : Int32))) = xx
  refine own_iloadN X24 hx hby at_153 rfl (pc' := 154) rfl ?_
  refine own_callS X24 hx hby hZ (by exact hml) hown (own_w hw 13 rfl) (own_w hw 14 rfl) (own_w hw 15 rfl) (own_w hw 16 rfl) (by decide) e24 0 (by decide) (by decide) (by decide) (by decide) (argsL := [(.int p1)]) (rest := []) (lenOf pd__I_Z rfl) rfl (rmC l Z a0 hw p1 h24) (Nat.le_of_eq rfl) at_154 (pc' := 157) rfl ?_
  intro v25 T25 L25 X25 hQ25
  obtain ⟨rfl, rfl, e25⟩ := hQ25
  rw [List.append_nil] at X25
  replace e25 : T25.heap = h24 := e25
  show GoP p e below Φ (T25.setTop (mkF m 157 #[.val (.int p1), .val (.int p2), .val (.int p3), .val (.ref b1), .val (.int xx), .unset, .unset] [(.int (own_can p1))]))
  refine own_iloadN X25 hx hby at_157 rfl (pc' := 158) rfl ?_
  refine own_callS X25 hx hby hZ (by exact hml) hown (own_w hw 19 rfl) (own_w hw 20 rfl) (own_w hw 21 rfl) (own_w hw 22 rfl) (by decide) e25 1 (by decide) (by decide) (by decide) (by decide) (argsL := [(.int p1)]) (rest := [(.int (own_can p1))]) (lenOf pd__I_Z rfl) rfl (rmR l Z a0 hw p1 h24) (Nat.le_of_eq rfl) at_158 (pc' := 161) rfl ?_
  intro v26 T26 L26 X26 hQ26
  obtain ⟨rfl, rfl, e26⟩ := hQ26
  rw [List.append_nil] at X26
  replace e26 : T26.heap = h24 := e26
  show GoP p e below Φ (T26.setTop (mkF m 161 #[.val (.int p1), .val (.int p2), .val (.int p3), .val (.ref b1), .val (.int xx), .unset, .unset] [(.int (own_can p1)), (.int (own_can p1))]))
  refine own_icmpN X26 hx hby at_161 (teq rfl).2 (pc' := 164) rfl ?_
  refine own_iconst X26 hx hby at_164 (v := (1 : Int32)) rfl (pc' := 165) rfl ?_
  refine own_goto X26 hx hby at_165 (by decide) (pc' := 169) (by decide) ?_
  refine own_istore X26 hx hby at_169  (Ls' := #[.val (.int p1), .val (.int p2), .val (.int p3), .val (.ref b1), .val (.int xx), .val (.int (1 : Int32)), .unset]) rfl (pc' := 171) rfl ?_
  refine own_iload X26 hx hby at_171 rfl (pc' := 173) rfl ?_
  refine own_callS X26 hx hby hZ (by exact hml) hown (own_w hw 13 rfl) (own_w hw 14 rfl) (own_w hw 15 rfl) (own_w hw 16 rfl) (by decide) e26 0 (by decide) (by decide) (by decide) (by decide) (argsL := [(.int xx)]) (rest := []) (lenOf pd__I_Z rfl) rfl (rmC l Z a0 hw xx h24) (Nat.le_of_eq rfl) at_173 (pc' := 176) rfl ?_
  intro v27 T27 L27 X27 hQ27
  obtain ⟨rfl, rfl, e27⟩ := hQ27
  rw [List.append_nil] at X27
  replace e27 : T27.heap = h24 := e27
  show GoP p e below Φ (T27.setTop (mkF m 176 #[.val (.int p1), .val (.int p2), .val (.int p3), .val (.ref b1), .val (.int xx), .val (.int (1 : Int32)), .unset] [(.int (own_can xx))]))
  refine own_iload X27 hx hby at_176 rfl (pc' := 178) rfl ?_
  refine own_callS X27 hx hby hZ (by exact hml) hown (own_w hw 19 rfl) (own_w hw 20 rfl) (own_w hw 21 rfl) (own_w hw 22 rfl) (by decide) e27 1 (by decide) (by decide) (by decide) (by decide) (argsL := [(.int xx)]) (rest := [(.int (own_can xx))]) (lenOf pd__I_Z rfl) rfl (rmR l Z a0 hw xx h24) (Nat.le_of_eq rfl) at_178 (pc' := 181) rfl ?_
  intro v28 T28 L28 X28 hQ28
  obtain ⟨rfl, rfl, e28⟩ := hQ28
  rw [List.append_nil] at X28
  replace e28 : T28.heap = h24 := e28
  show GoP p e below Φ (T28.setTop (mkF m 181 #[.val (.int p1), .val (.int p2), .val (.int p3), .val (.ref b1), .val (.int xx), .val (.int (1 : Int32)), .unset] [(.int (own_can xx)), (.int (own_can xx))]))
  refine own_icmpN X28 hx hby at_181 (teq rfl).2 (pc' := 184) rfl ?_
  refine own_iconst X28 hx hby at_184 (v := (1 : Int32)) rfl (pc' := 185) rfl ?_
  refine own_goto X28 hx hby at_185 (by decide) (pc' := 189) (by decide) ?_
  refine own_istore X28 hx hby at_189  (Ls' := #[.val (.int p1), .val (.int p2), .val (.int p3), .val (.ref b1), .val (.int xx), .val (.int (1 : Int32)), .val (.int (1 : Int32))]) rfl (pc' := 191) rfl ?_
  refine own_iload X28 hx hby at_191 rfl (pc' := 193) rfl ?_
  refine own_ifN X28 hx hby at_193 ((if0 _ _).trans (feq (by decide)).1) (pc' := 196) rfl ?_
  refine own_iload X28 hx hby at_196 rfl (pc' := 198) rfl ?_
  refine own_ifN X28 hx hby at_198 ((if0 _ _).trans (feq (by decide)).1) (pc' := 201) rfl ?_
  refine own_iconst X28 hx hby at_201 (v := (1 : Int32)) rfl (pc' := 202) rfl ?_
  refine own_goto X28 hx hby at_202 (by decide) (pc' := 206) (by decide) ?_
  exact own_retN X28 hx hby fin hret (by simp) rfl at_206 (by decide) (by decide) ⟨rfl, N24⟩
set_option maxRecDepth 65536 in
set_option maxHeartbeats 40000000 in
theorem comes_1 {Post : Tables → Env → Array Value → State → Outcome → State → Prop} (hpost : ∀ tb e args s v u, (limb_1_1.after args s (.returned v) u = true ∧ limb_1_2.after args s (.returned v) u = true ∧ True) → FrameEnd s (.returned v) u (Jvm.fieldLocs frame_1_writes args s ++ Jvm.arrayLocs frame_1_arrays args s ++ Jvm.staticLocs frame_1_statics s) 16 128 → Post tb e args s (.returned v) u) :
    ArmFor flags0 classFile x code maxLocals ret World_1 tables_1 room_1 Calls_1 rest_1 Pre_1 Post := by
  intro l hfl _ _ p e ha hc hk s m args below hf hA hF happ hP
  obtain ⟨hcalls, hrest, hpre⟩ := hP
  obtain ⟨-, -, -, hnamed, -, -, -, hat⟩ := (Spec.applies_iff hf).mp happ
  obtain ⟨hg, hn⟩ := and_e (Cond.before_iff.mp (show (Jvm.Cond.and given_1 narrow_1).before args s = true from hpre))
  obtain ⟨g0, hg⟩ := and_e hg
  obtain ⟨w0, w1, w2, rfl⟩ : ∃ w0 w1 w2 : Value, args = #[w0, w1, w2] := by
    have hs : args.size = 3 := by simpa [Cond.value, given_1] using g0
    obtain ⟨L⟩ := args
    match L, hs with
    | [w0, w1, w2], _ => exact ⟨w0, w1, w2, rfl⟩
  obtain ⟨q0, hg⟩ := and_e hg
  obtain ⟨q1, hg⟩ := and_e hg
  have q2 := hg
  have hw := fun d (hd : d ∈ tables_1) => atoms_spec (ws := Jvm.Cond.code x code maxLocals ret :: tables_1) hat d (List.mem_cons_of_mem _ hd)
  have hfit : Fit s := fun {y c} hc i hi => by
    obtain ⟨ha, rfl⟩ := Array.getElem?_eq_some_iff.mp hc
    have q := List.all_eq_true.mp ((Array.all_eq_true_iff_forall_mem.mp hF) _ (Array.getElem_mem ha)) i (List.mem_range.mpr hi)
    simpa [Array.getElem?_eq_getElem hi] using q
  obtain ⟨i0, f0⟩ := is_v q0
  obtain rfl : w0 = (.int i0) := Option.some.inj f0
  obtain ⟨i1, f1⟩ := is_v q1
  obtain rfl : w1 = (.int i1) := Option.some.inj f1
  obtain ⟨i2, f2⟩ := is_v q2
  obtain rfl : w2 = (.int i2) := Option.some.inj f2
  obtain ⟨n, o, h1, h2, h3, _, L, rfl, ⟨rfl, N⟩, hq⟩ := rm0 l s _ hw i0 i1 i2 s.heap.size s.heap (Nat.le_refl _) p e ha hc hk s m _ below hf ((Spec.applies_iff_loose hf).mp happ).1 ⟨rfl, State.Warmed39.refl s, rfl⟩ trivial
  refine ⟨n, _, h1, h2, h3, hpost _ _ _ _ _ _ ⟨Cond.after_iff.mpr rfl, Cond.after_iff.mpr (eq_i res_at (Term.int_eval (1)) rfl), trivial⟩ ⟨hq.1, hq.2.1, (hq.2.2.sift fun y hy => Or.inr (N y hy)).mono (by decide) (by decide)⟩⟩
theorem main_1_1 : Claimed_1_1 := comes_1 fun _ _ _ _ _ _ h hF => ⟨h.1, hF⟩
theorem main_1_2 : Claimed_1_2 := comes_1 fun _ _ _ _ _ _ h hF => ⟨h.2.1, hF⟩
end Jvm.Pilot.@@N@@
namespace Jvm.Pilot.@@N@@
open Jvm Jvm.ClassFile Sem Op Lib Jvm.Free Jvm.Stand Jvm.Pilot.@@N@@.Jvm.D
/-! MADE BY PROGRAM (witnessworld.py) out of the Statement's table words and the real class files: 9 classes; the members and pool entries that the words name. The judged class is class 1, her method 2. -/
namespace start1
open Jvm.ClassFile
def u (s : String) : CpInfo := .utf8 (stringToUtf16 s)
/-- a pool by its gaps: so many unusable entries, then the entry; so many at the end -/
def gap : Nat → List CpInfo → List CpInfo
  | 0, r => r
  | n + 1, r => .unusable :: gap n r
def poolList (es : List (Nat × CpInfo)) (last : Nat) : List CpInfo := es.foldr (fun e r => gap e.1 (e.2 :: r)) (gap last [])
def pool (es : List (Nat × CpInfo)) (last : Nat) : Array CpInfo := ⟨poolList es last⟩
def fileOf (pool : Array CpInfo) (this : Nat) (attrs : Array Attribute := #[]) (ms : Array MethodInfo := #[]) (fl : Nat := 33) (sup : Nat := 0) (ifs : Array Nat := #[]) (fds : Array FieldInfo := #[]) : ClassFile where
  minorVersion := 0
  majorVersion := 65
  constantPool := pool
  accessFlags := fl
  thisClass := this
  superClass := sup
  interfaces := ifs
  fields := fds
  methods := ms
  attributes := attrs
def plain (name : String) (sup : Option ClassId) : Class where
  name := name
  kind := .ordinary
  loader := none
  accessFlags := 33
  super := sup
  interfaces := #[]
  cf := none
  fields := #[]
  methods := #[]
  instanceTypes := #[]
  staticTypes := #[]
  resolved := #[]
  callSites := []
  init := .initialized
  statics := none
  mirror := none

def pool0 : Array CpInfo := pool [(5, u "<init>"), (0, u "()V"), (1, .class_ 10), (1, u "java/lang/Object")] 113

def k0m0 : Method := { name := "<init>", desc := "()V", sig := { parameters := [], returnType := none }, accessFlags := 1, code := none }
/-- java/lang/Object -/
def k0 : Class := { plain "java/lang/Object" none with
  accessFlags := 33
  interfaces := #[]
  cf := some (fileOf pool0 8 #[] #[{ accessFlags := 1, nameIndex := 5, descriptorIndex := 6, attributes := #[] }] 33 0 #[] #[])
  fields := #[]
  methods := #[k0m0]
  instanceTypes := #[]
  staticTypes := #[]
  resolved := Array.replicate 124 none
  statics := none }

def pool1 : Array CpInfo := pool [(2, .class_ 4), (1, u "java/lang/Object"), (0, u "<init>"), (0, u "()V"), (0, .integer 1114111), (0, .integer 55296), (0, .integer 57343), (0, .integer 65534), (0, .integer 65535), (0, .integer 55295), (0, .integer 57344), (0, .integer 65533), (0, .integer 65536), (0, .integer 1114112), (2, .integer 2147483648), (0, .integer 2147483647), (0, .methodref 22 23), (0, .class_ 24), (0, .nameAndType 25 26), (0, u "com/example/tracemass/tracemass/inputs/XmlDocument"), (0, u "canHold"), (0, u "(I)Z"), (0, .methodref 28 29), (0, .class_ 30), (0, .nameAndType 31 26), (0, u "com/example/tracemass/tracemass/inputs/XmlDocumentCanHoldPinLaw"), (0, u "reference"), (3, u "law"), (0, u "(III)Z")] 4

def k1m0 : Method := { name := "<init>", desc := "()V", sig := { parameters := [], returnType := none }, accessFlags := 2, code := none }
def k1c1 : Code := { maxStack := 2, maxLocals := 1, code := method_2_code, exceptionTable := #[], attributes := #[] }
def k1m1 : Method := { name := "reference", desc := "(I)Z", sig := { parameters := [.int], returnType := some .boolean }, accessFlags := 10, code := some k1c1 }
def k1c2 : Code := { maxStack := 4, maxLocals := 7, code := code, exceptionTable := #[], attributes := #[] }
def k1m2 : Method := { name := "law", desc := "(III)Z", sig := { parameters := [.int, .int, .int], returnType := some .boolean }, accessFlags := 9, code := some k1c2 }
/-- com/example/tracemass/tracemass/inputs/XmlDocumentCanHoldPinLaw -/
def k1 : Class := { plain "com/example/tracemass/tracemass/inputs/XmlDocumentCanHoldPinLaw" (some 0) with
  accessFlags := 49
  interfaces := #[]
  cf := some (fileOf pool1 28 #[] #[{ accessFlags := 2, nameIndex := 5, descriptorIndex := 6, attributes := #[] }, { accessFlags := 10, nameIndex := 31, descriptorIndex := 26, attributes := #[] }, { accessFlags := 9, nameIndex := 35, descriptorIndex := 36, attributes := #[] }] 49 2 #[] #[])
  fields := #[]
  methods := #[k1m0, k1m1, k1m2]
  instanceTypes := #[]
  staticTypes := #[]
  resolved := Array.replicate 41 none
  statics := none }

def pool2 : Array CpInfo := pool [(2, .class_ 4), (1, u "java/lang/Object"), (3, .class_ 10), (1, u "com/example/tracemass/tracemass/inputs/XmlDocument"), (0, u "file"), (0, u "Ljava/nio/file/Path;"), (2, u "xml"), (0, u "Ljavax/xml/stream/XMLStreamReader;"), (0, .integer 55295), (0, .integer 57344), (0, .integer 65533), (0, .integer 65536), (0, .integer 1114111), (171, .class_ 195), (1, u "com/example/tracemass/tracemass/inputs/XmlDocument$RootReader"), (18, .class_ 216), (1, u "com/example/tracemass/tracemass/inputs/XmlDocument$ElementReader"), (30, u "canHold"), (0, u "(I)Z")] 41

def k2c0 : Code := { maxStack := 2, maxLocals := 1, code := prog_20_method_2_code, exceptionTable := #[], attributes := #[] }
def k2m0 : Method := { name := "canHold", desc := "(I)Z", sig := { parameters := [.int], returnType := some .boolean }, accessFlags := 9, code := some k2c0 }
/-- com/example/tracemass/tracemass/inputs/XmlDocument -/
def k2 : Class := { plain "com/example/tracemass/tracemass/inputs/XmlDocument" (some 0) with
  accessFlags := 49
  interfaces := #[]
  cf := some (fileOf pool2 8 #[.nestMembers #[214, 193]] #[{ accessFlags := 9, nameIndex := 247, descriptorIndex := 248, attributes := #[] }] 49 2 #[] #[{ accessFlags := 18, nameIndex := 11, descriptorIndex := 12, attributes := #[] }, { accessFlags := 18, nameIndex := 15, descriptorIndex := 16, attributes := #[] }])
  fields := #[{ name := "file", type := (.object "java/nio/file/Path"), accessFlags := 18, slot := 0, constantValue := 0 }, { name := "xml", type := (.object "javax/xml/stream/XMLStreamReader"), accessFlags := 18, slot := 1, constantValue := 0 }]
  methods := #[k2m0]
  instanceTypes := #[(.object "java/nio/file/Path"), (.object "javax/xml/stream/XMLStreamReader")]
  staticTypes := #[]
  resolved := Array.replicate 290 none
  statics := none }

def pool3 : Array CpInfo := pool [(1, u "java/lang/Cloneable"), (0, .class_ 1), (0, u "java/lang/Object"), (0, .class_ 3)] 3

/-- java/lang/Cloneable -/
def k3 : Class := { plain "java/lang/Cloneable" (some 0) with
  accessFlags := 1537
  interfaces := #[]
  cf := some (fileOf pool3 2 #[] #[] 1537 4 #[] #[])
  fields := #[]
  methods := #[]
  instanceTypes := #[]
  staticTypes := #[]
  resolved := Array.replicate 8 none
  statics := none }

def pool4 : Array CpInfo := pool [(1, u "java/io/Serializable"), (0, .class_ 1), (0, u "java/lang/Object"), (0, .class_ 3)] 3

/-- java/io/Serializable -/
def k4 : Class := { plain "java/io/Serializable" (some 0) with
  accessFlags := 1537
  interfaces := #[]
  cf := some (fileOf pool4 2 #[] #[] 1537 4 #[] #[])
  fields := #[]
  methods := #[]
  instanceTypes := #[]
  staticTypes := #[]
  resolved := Array.replicate 8 none
  statics := none }

/-- the primitive byte -/
def k5 : Class := { plain "byte" none with kind := .primitive 'B', accessFlags := 0x411 }
/-- [B -/
def k6 : Class := { plain "[B" (some 0) with kind := .array 5 .byte, interfaces := #[3, 4], accessFlags := 1041 }

/-- the primitive int -/
def k7 : Class := { plain "int" none with kind := .primitive 'I', accessFlags := 0x411 }
/-- [I -/
def k8 : Class := { plain "[I" (some 0) with kind := .array 7 .int, interfaces := #[3, 4], accessFlags := 1041 }

def heap : Heap := #[]
def classes : Array Class := #[k0, k1, k2, k3, k4, k5, k6, k7, k8]
def interned : List (Array UInt16 × Addr) := []
def slotsUsed : Nat := 0
def theMethod : MethodId := ⟨1, 2⟩
def args0 : Array Value := #[.int 3, .int 1, .int 3]
def aboutOver (below : List Frame) : State where
  vm := { classes := classes, interned := interned.toArray }
  heap := heap
  slotsUsed := slotsUsed
  threads := #[{ frames := .invoking theMethod args0 :: below }]
def below0 : List Frame := [.native { method := ⟨0, 0⟩, args := #[] }]
def about1 : State := aboutOver below0
def p0 : Program := .bare "" "" ""
def e0 : Env := launch0.env 0 0 0
theorem w_frames : about1.frames = Frame.invoking theMethod args0 :: below0 := rfl
set_option maxRecDepth 65536 in
theorem w_args : argsFit about1.vm theMethod args0 = true := by decide +kernel
set_option maxRecDepth 65536 in
theorem w_heap : heapFits about1 = true := by decide +kernel
set_option maxRecDepth 65536 in
theorem w_runnable : about1.curStatus? = some .runnable := by decide +kernel
set_option maxRecDepth 65536 in
theorem w_alone : about1.alone = true := by decide +kernel
set_option maxRecDepth 65536 in
theorem w_named : about1.methodNamed? x = some theMethod := by decide +kernel
set_option maxRecDepth 65536 in
theorem w_hears : about1.hears theMethod below0 = true := by decide +kernel
set_option maxRecDepth 65536 in
theorem w_ripe : about1.ripe theMethod args0 below0 = true := by decide +kernel
theorem w_running : about1.status = .running := rfl
set_option maxRecDepth 65536 in
theorem w_room : about1.hasRoom e0.platform room_1 = true :=
  launch0.hasRoom_least _ room_1 (by decide +kernel) (by decide +kernel) (by decide +kernel) (by decide +kernel) (by decide +kernel) (by decide +kernel)
theorem allAtoms_all (ts : List Jvm.Cond) (a : Array Jvm.Value) (st : Jvm.State) : (allAtoms ts).before a st = ts.all (fun c => c.before a st) := by
  induction ts with
  | nil => rfl
  | cons c t ih =>
    show (Jvm.Cond.and c (allAtoms t)).before a st = _
    rw [Jvm.Cond.before_and, ih, List.all_cons]
def words1 : List Jvm.Cond := Jvm.Cond.code x code maxLocals ret :: tables_1
/-- a 'code' word, met by the world's own term for the bytes: nothing is compared byte by byte -/
theorem code_word {y : MethodName} {bytes : ByteArray} {mx : Nat} {rt : Option FieldType} {a : Array Value} {s : State} {m : MethodId} {meth : Method} {c : Code} (h1 : s.methodNamed? y = some m) (h2 : s.vm.method? m = some meth) (h3 : meth.code = some c) (h4 : c.code = bytes)
    (h5 : (c.maxLocals == mx && c.exceptionTable.isEmpty && decide (c.maxStack ≤ mostOperands) && decide (meth.sig.returnType = rt) && !meth.locks && decide (parseMethodDescriptor y.desc = some meth.sig)) = true) : (Jvm.Cond.code y bytes mx rt).before a s = true := by
  simp only [Bool.and_eq_true, beq_iff_eq, Bool.not_eq_true', decide_eq_true_eq] at h5
  obtain ⟨⟨⟨⟨⟨g1, g2⟩, g3⟩, g4⟩, g5⟩, g6⟩ := h5
  simp [Cond.before, Cond.holds, Cond.value, h1, h2, h3, h4, g1, g2, g3, g4, g5, g6]
def isCode : Jvm.Cond → Bool
  | .code _ _ _ _ => true
  | _ => false
theorem all_split {L : List Jvm.Cond} {P : Jvm.Cond → Bool} (h1 : L.all (fun c => isCode c || P c) = true) (h2 : ∀ c ∈ L.filter isCode, P c = true) : L.all P = true := by
  refine List.all_eq_true.mpr fun c hc => ?_
  have h := List.all_eq_true.mp h1 c hc
  rcases Bool.eq_false_or_eq_true (isCode c) with hi | hi
  · exact h2 c (List.mem_filter.mpr ⟨hc, hi⟩)
  · simpa [hi] using h
set_option maxRecDepth 65536 in
theorem w_c0 : (Jvm.Cond.code x code maxLocals ret).before args0 about1 = true := code_word (m := ⟨1, 2⟩) (meth := k1m2) (c := k1c2) (by decide +kernel) rfl rfl rfl (by decide +kernel)
set_option maxRecDepth 65536 in
theorem w_c1 : (Jvm.Cond.code ({ cls := "com/example/tracemass/tracemass/inputs/XmlDocument", name := "canHold", desc := "(I)Z" } : Jvm.MethodName) prog_20_method_2_code (1 : Nat) (Option.some Jvm.ClassFile.FieldType.boolean)).before args0 about1 = true := code_word (m := ⟨2, 0⟩) (meth := k2m0) (c := k2c0) (by decide +kernel) rfl rfl rfl (by decide +kernel)
set_option maxRecDepth 65536 in
theorem w_c2 : (Jvm.Cond.code ({ cls := "com/example/tracemass/tracemass/inputs/XmlDocumentCanHoldPinLaw", name := "reference", desc := "(I)Z" } : Jvm.MethodName) method_2_code (1 : Nat) (Option.some Jvm.ClassFile.FieldType.boolean)).before args0 about1 = true := code_word (m := ⟨1, 1⟩) (meth := k1m1) (c := k1c1) (by decide +kernel) rfl rfl rfl (by decide +kernel)
def codes1 : List Jvm.Cond := [Jvm.Cond.code x code maxLocals ret, Jvm.Cond.code ({ cls := "com/example/tracemass/tracemass/inputs/XmlDocument", name := "canHold", desc := "(I)Z" } : Jvm.MethodName) prog_20_method_2_code (1 : Nat) (Option.some Jvm.ClassFile.FieldType.boolean), Jvm.Cond.code ({ cls := "com/example/tracemass/tracemass/inputs/XmlDocumentCanHoldPinLaw", name := "reference", desc := "(I)Z" } : Jvm.MethodName) method_2_code (1 : Nat) (Option.some Jvm.ClassFile.FieldType.boolean)]
set_option maxRecDepth 65536 in
theorem codes_eq : words1.filter isCode = codes1 := rfl
theorem w_codes : ∀ c ∈ words1.filter isCode, c.before args0 about1 = true := by
  rw [codes_eq]
  intro c hc
  simp only [codes1, List.mem_cons, List.not_mem_nil, or_false] at hc
  rcases hc with rfl | rfl | rfl
  · exact w_c0
  · exact w_c1
  · exact w_c2
set_option maxRecDepth 65536 in
theorem w_t1 : (words1.take 24).all (fun c => isCode c || c.before args0 about1) = true := by decide +kernel
set_option maxRecDepth 65536 in
theorem w_t2 : (words1.drop 24).all (fun c => isCode c || c.before args0 about1) = true := by decide +kernel
theorem w_tables : (allAtoms (Jvm.Cond.code x code maxLocals ret :: tables_1)).before args0 about1 = true := by
  rw [allAtoms_all]
  show words1.all (fun c => c.before args0 about1) = true
  refine all_split ?_ w_codes
  rw [← List.take_append_drop 24 words1, List.all_append, w_t1, w_t2]
  rfl
set_option maxRecDepth 65536 in
theorem w_case : (Jvm.Cond.and given_1 narrow_1).before args0 about1 = true := by decide +kernel
theorem w_applies : (headSpec (Jvm.Cond.code x code maxLocals ret :: tables_1) room_1).applies x e0.platform about1 = true :=
  (Spec.applies_iff w_frames).mpr ⟨w_running, w_runnable, w_alone, w_named, w_hears, w_ripe, w_room, w_tables⟩
theorem atStart : AtStart classFile x code maxLocals ret World_1 tables_1 room_1 Calls_1 rest_1 Pre_1 launch0 p0 e0 about1 theMethod args0 below0 :=
  ⟨lists_1, trivial, launch0.admits_env _ _ _, launch0.least_env, fairChoices_fair.cas, fairChoices_fair.clock, w_frames, w_args, w_heap, w_applies, trivial, trivial, w_case⟩
end start1
theorem witness_1 : WitnessClaimed_1 := ⟨start1.p0, start1.e0, start1.about1, start1.theMethod, start1.args0, start1.below0, start1.atStart⟩
end Jvm.Pilot.@@N@@
