import JvmDerived
import JvmDerived.Pilot.@@N@@Statement
import JvmDerived.Pilot.@@N@@Code
set_option linter.unusedVariables false
set_option linter.unusedSimpArgs false
namespace Jvm.Pilot.@@N@@
open Jvm Jvm.ClassFile Sem Op Lib Jvm.Free Jvm.Stand Jvm.LawKit Jvm.RoadKit Bundle Jvm.Pilot.@@N@@.Jvm.D
section OwnKit
variable {p : Program} {l : Launch} {e : Env} {R : Room} {s : State} {m : MethodId} {args : Array Value} {below : List Frame} {meth : Method} {c : Code} {T : State} {locs : List Loc} {cells slots : Nat} {bytes : ByteArray} {Φ : State → Prop} {pc pc' : Nat} {Ls Ls' : Array Slot} {rest : List Value} {Z : State} {a0 : Array Value} {h : Heap}
/-- the run from A ends in a state with the property Φ -/
def GoP (p : Program) (e : Env) (below : List Frame) (Φ : State → Prop) (A : State) : Prop := ∃ t, Steps p.tables e below A t ∧ Φ t
theorem own_step {A B : State} (h : ∀ t, Steps p.tables e below B t → Steps p.tables e below A t) (g : GoP p e below Φ B) : GoP p e below Φ A := by
  obtain ⟨t, h1, h2⟩ := g; exact ⟨t, h t h1, h2⟩
theorem own_trans {A B : State} (h : Steps p.tables e below A B) (g : GoP p e below Φ B) : GoP p e below Φ A := by
  obtain ⟨t, h1, h2⟩ := g; exact ⟨t, h.trans h1, h2⟩
theorem own_w {L : List Jvm.Cond} (hw : ∀ d ∈ L, d.before a0 Z = true) (i : Nat) {d : Jvm.Cond} (q : L[i]? = some d) : d.before a0 Z = true := hw d (List.mem_of_getElem? q)

theorem own_iload (X : Stand p l e R s m args below meth c T locs cells slots) (hx : p.tables.exec = Jvm.exec) (hby : c.code = bytes) {k : Nat} {x : Int32} (hd : decode bytes pc = .ok (.iload k, 2)) (hl : Ls[k]? = some (.val (.int x))) (hp : pc + 2 = pc') (k : GoP p e below Φ (T.setTop (mkF m pc' Ls (.int x :: rest)))) : GoP p e below Φ (T.setTop (mkF m pc Ls (rest))) := by
  subst hp
  exact own_step (fun t q => XS.iload X.here hx rfl (hb hby hd) hl q) k
theorem own_iloadN (X : Stand p l e R s m args below meth c T locs cells slots) (hx : p.tables.exec = Jvm.exec) (hby : c.code = bytes) {k : Fin 4} {x : Int32} (hd : decode bytes pc = .ok (.iload_n k, 1)) (hl : Ls[k.val]? = some (.val (.int x))) (hp : pc + 1 = pc') (k : GoP p e below Φ (T.setTop (mkF m pc' Ls (.int x :: rest)))) : GoP p e below Φ (T.setTop (mkF m pc Ls (rest))) := by
  subst hp
  exact own_step (fun t q => XS.iloadN X.here hx rfl (hb hby hd) hl q) k
theorem own_istore (X : Stand p l e R s m args below meth c T locs cells slots) (hx : p.tables.exec = Jvm.exec) (hby : c.code = bytes) {k : Nat} {x : Int32} (hd : decode bytes pc = .ok (.istore k, 2)) (hl : storeLocals Ls k (.int x) = some Ls') (hp : pc + 2 = pc') (k : GoP p e below Φ (T.setTop (mkF m pc' Ls' (rest)))) : GoP p e below Φ (T.setTop (mkF m pc Ls (.int x :: rest))) := by
  subst hp
  exact own_step (fun t q => XS.istore X.here hx rfl (hb hby hd) rfl hl q) k
theorem own_istoreN (X : Stand p l e R s m args below meth c T locs cells slots) (hx : p.tables.exec = Jvm.exec) (hby : c.code = bytes) {k : Fin 4} {x : Int32} (hd : decode bytes pc = .ok (.istore_n k, 1)) (hl : storeLocals Ls k.val (.int x) = some Ls') (hp : pc + 1 = pc') (k : GoP p e below Φ (T.setTop (mkF m pc' Ls' (rest)))) : GoP p e below Φ (T.setTop (mkF m pc Ls (.int x :: rest))) := by
  subst hp
  exact own_step (fun t q => XS.istoreN X.here hx rfl (hb hby hd) rfl hl q) k
theorem own_lload (X : Stand p l e R s m args below meth c T locs cells slots) (hx : p.tables.exec = Jvm.exec) (hby : c.code = bytes) {k : Nat} {x : Int64} (hd : decode bytes pc = .ok (.lload k, 2)) (hl : Ls[k]? = some (.val (.long x))) (hp : pc + 2 = pc') (k : GoP p e below Φ (T.setTop (mkF m pc' Ls (.long x :: rest)))) : GoP p e below Φ (T.setTop (mkF m pc Ls (rest))) := by
  subst hp
  exact own_step (fun t q => XS.lload X.here hx rfl (hb hby hd) hl q) k
theorem own_lloadN (X : Stand p l e R s m args below meth c T locs cells slots) (hx : p.tables.exec = Jvm.exec) (hby : c.code = bytes) {k : Fin 4} {x : Int64} (hd : decode bytes pc = .ok (.lload_n k, 1)) (hl : Ls[k.val]? = some (.val (.long x))) (hp : pc + 1 = pc') (k : GoP p e below Φ (T.setTop (mkF m pc' Ls (.long x :: rest)))) : GoP p e below Φ (T.setTop (mkF m pc Ls (rest))) := by
  subst hp
  exact own_step (fun t q => XS.lloadN X.here hx rfl (hb hby hd) hl q) k
theorem own_lstore (X : Stand p l e R s m args below meth c T locs cells slots) (hx : p.tables.exec = Jvm.exec) (hby : c.code = bytes) {k : Nat} {x : Int64} (hd : decode bytes pc = .ok (.lstore k, 2)) (hl : storeLocals Ls k (.long x) = some Ls') (hp : pc + 2 = pc') (k : GoP p e below Φ (T.setTop (mkF m pc' Ls' (rest)))) : GoP p e below Φ (T.setTop (mkF m pc Ls (.long x :: rest))) := by
  subst hp
  exact own_step (fun t q => XS.lstore X.here hx rfl (hb hby hd) rfl hl q) k
theorem own_lstoreN (X : Stand p l e R s m args below meth c T locs cells slots) (hx : p.tables.exec = Jvm.exec) (hby : c.code = bytes) {k : Fin 4} {x : Int64} (hd : decode bytes pc = .ok (.lstore_n k, 1)) (hl : storeLocals Ls k.val (.long x) = some Ls') (hp : pc + 1 = pc') (k : GoP p e below Φ (T.setTop (mkF m pc' Ls' (rest)))) : GoP p e below Φ (T.setTop (mkF m pc Ls (.long x :: rest))) := by
  subst hp
  exact own_step (fun t q => XS.lstoreN X.here hx rfl (hb hby hd) rfl hl q) k
theorem own_aload (X : Stand p l e R s m args below meth c T locs cells slots) (hx : p.tables.exec = Jvm.exec) (hby : c.code = bytes) {k : Nat} {x : Value} (hd : decode bytes pc = .ok (.aload k, 2)) (hl : Ls[k]? = some (.val x)) (hr : x.isRef = true) (hp : pc + 2 = pc') (k : GoP p e below Φ (T.setTop (mkF m pc' Ls (x :: rest)))) : GoP p e below Φ (T.setTop (mkF m pc Ls (rest))) := by
  subst hp
  exact own_step (fun t q => XS.aload X.here hx rfl (hb hby hd) hl hr q) k
theorem own_aloadN (X : Stand p l e R s m args below meth c T locs cells slots) (hx : p.tables.exec = Jvm.exec) (hby : c.code = bytes) {k : Fin 4} {x : Value} (hd : decode bytes pc = .ok (.aload_n k, 1)) (hl : Ls[k.val]? = some (.val x)) (hr : x.isRef = true) (hp : pc + 1 = pc') (k : GoP p e below Φ (T.setTop (mkF m pc' Ls (x :: rest)))) : GoP p e below Φ (T.setTop (mkF m pc Ls (rest))) := by
  subst hp
  exact own_step (fun t q => XS.aloadN X.here hx rfl (hb hby hd) hl hr q) k
theorem own_astore (X : Stand p l e R s m args below meth c T locs cells slots) (hx : p.tables.exec = Jvm.exec) (hby : c.code = bytes) {k : Nat} {x : Value} (hd : decode bytes pc = .ok (.astore k, 2)) (hr : x.isRef = true) (hl : storeLocals Ls k x = some Ls') (hp : pc + 2 = pc') (k : GoP p e below Φ (T.setTop (mkF m pc' Ls' (rest)))) : GoP p e below Φ (T.setTop (mkF m pc Ls (x :: rest))) := by
  subst hp
  exact own_step (fun t q => XS.astore X.here hx rfl (hb hby hd) rfl hr hl q) k
theorem own_astoreN (X : Stand p l e R s m args below meth c T locs cells slots) (hx : p.tables.exec = Jvm.exec) (hby : c.code = bytes) {k : Fin 4} {x : Value} (hd : decode bytes pc = .ok (.astore_n k, 1)) (hr : x.isRef = true) (hl : storeLocals Ls k.val x = some Ls') (hp : pc + 1 = pc') (k : GoP p e below Φ (T.setTop (mkF m pc' Ls' (rest)))) : GoP p e below Φ (T.setTop (mkF m pc Ls (x :: rest))) := by
  subst hp
  exact own_step (fun t q => XS.astoreN X.here hx rfl (hb hby hd) rfl hr hl q) k
theorem own_iadd (X : Stand p l e R s m args below meth c T locs cells slots) (hx : p.tables.exec = Jvm.exec) (hby : c.code = bytes) {x y : Int32} (hd : decode bytes pc = .ok (.iadd, 1)) (hp : pc + 1 = pc') (k : GoP p e below Φ (T.setTop (mkF m pc' Ls (.int (x + y) :: rest)))) : GoP p e below Φ (T.setTop (mkF m pc Ls (.int y :: .int x :: rest))) := by
  subst hp
  exact own_step (fun t q => XS.iadd X.here hx rfl (hb hby hd) rfl q) k
theorem own_ladd (X : Stand p l e R s m args below meth c T locs cells slots) (hx : p.tables.exec = Jvm.exec) (hby : c.code = bytes) {x y : Int64} (hd : decode bytes pc = .ok (.ladd, 1)) (hp : pc + 1 = pc') (k : GoP p e below Φ (T.setTop (mkF m pc' Ls (.long (x + y) :: rest)))) : GoP p e below Φ (T.setTop (mkF m pc Ls (.long y :: .long x :: rest))) := by
  subst hp
  exact own_step (fun t q => XS.ladd X.here hx rfl (hb hby hd) rfl q) k
theorem own_isub (X : Stand p l e R s m args below meth c T locs cells slots) (hx : p.tables.exec = Jvm.exec) (hby : c.code = bytes) {x y : Int32} (hd : decode bytes pc = .ok (.isub, 1)) (hp : pc + 1 = pc') (k : GoP p e below Φ (T.setTop (mkF m pc' Ls (.int (x - y) :: rest)))) : GoP p e below Φ (T.setTop (mkF m pc Ls (.int y :: .int x :: rest))) := by
  subst hp
  exact own_step (fun t q => XS.isub X.here hx rfl (hb hby hd) rfl q) k
theorem own_lsub (X : Stand p l e R s m args below meth c T locs cells slots) (hx : p.tables.exec = Jvm.exec) (hby : c.code = bytes) {x y : Int64} (hd : decode bytes pc = .ok (.lsub, 1)) (hp : pc + 1 = pc') (k : GoP p e below Φ (T.setTop (mkF m pc' Ls (.long (x - y) :: rest)))) : GoP p e below Φ (T.setTop (mkF m pc Ls (.long y :: .long x :: rest))) := by
  subst hp
  exact own_step (fun t q => XS.lsub X.here hx rfl (hb hby hd) rfl q) k
theorem own_imul (X : Stand p l e R s m args below meth c T locs cells slots) (hx : p.tables.exec = Jvm.exec) (hby : c.code = bytes) {x y : Int32} (hd : decode bytes pc = .ok (.imul, 1)) (hp : pc + 1 = pc') (k : GoP p e below Φ (T.setTop (mkF m pc' Ls (.int (x * y) :: rest)))) : GoP p e below Φ (T.setTop (mkF m pc Ls (.int y :: .int x :: rest))) := by
  subst hp
  exact own_step (fun t q => XS.imul X.here hx rfl (hb hby hd) rfl q) k
theorem own_lmul (X : Stand p l e R s m args below meth c T locs cells slots) (hx : p.tables.exec = Jvm.exec) (hby : c.code = bytes) {x y : Int64} (hd : decode bytes pc = .ok (.lmul, 1)) (hp : pc + 1 = pc') (k : GoP p e below Φ (T.setTop (mkF m pc' Ls (.long (x * y) :: rest)))) : GoP p e below Φ (T.setTop (mkF m pc Ls (.long y :: .long x :: rest))) := by
  subst hp
  exact own_step (fun t q => XS.lmul X.here hx rfl (hb hby hd) rfl q) k
theorem own_iand (X : Stand p l e R s m args below meth c T locs cells slots) (hx : p.tables.exec = Jvm.exec) (hby : c.code = bytes) {x y : Int32} (hd : decode bytes pc = .ok (.iand, 1)) (hp : pc + 1 = pc') (k : GoP p e below Φ (T.setTop (mkF m pc' Ls (.int (x &&& y) :: rest)))) : GoP p e below Φ (T.setTop (mkF m pc Ls (.int y :: .int x :: rest))) := by
  subst hp
  exact own_step (fun t q => XS.iand X.here hx rfl (hb hby hd) rfl q) k
theorem own_land (X : Stand p l e R s m args below meth c T locs cells slots) (hx : p.tables.exec = Jvm.exec) (hby : c.code = bytes) {x y : Int64} (hd : decode bytes pc = .ok (.land, 1)) (hp : pc + 1 = pc') (k : GoP p e below Φ (T.setTop (mkF m pc' Ls (.long (x &&& y) :: rest)))) : GoP p e below Φ (T.setTop (mkF m pc Ls (.long y :: .long x :: rest))) := by
  subst hp
  exact own_step (fun t q => XS.land X.here hx rfl (hb hby hd) rfl q) k
theorem own_ior (X : Stand p l e R s m args below meth c T locs cells slots) (hx : p.tables.exec = Jvm.exec) (hby : c.code = bytes) {x y : Int32} (hd : decode bytes pc = .ok (.ior, 1)) (hp : pc + 1 = pc') (k : GoP p e below Φ (T.setTop (mkF m pc' Ls (.int (x ||| y) :: rest)))) : GoP p e below Φ (T.setTop (mkF m pc Ls (.int y :: .int x :: rest))) := by
  subst hp
  exact own_step (fun t q => XS.ior X.here hx rfl (hb hby hd) rfl q) k
theorem own_lor (X : Stand p l e R s m args below meth c T locs cells slots) (hx : p.tables.exec = Jvm.exec) (hby : c.code = bytes) {x y : Int64} (hd : decode bytes pc = .ok (.lor, 1)) (hp : pc + 1 = pc') (k : GoP p e below Φ (T.setTop (mkF m pc' Ls (.long (x ||| y) :: rest)))) : GoP p e below Φ (T.setTop (mkF m pc Ls (.long y :: .long x :: rest))) := by
  subst hp
  exact own_step (fun t q => XS.lor X.here hx rfl (hb hby hd) rfl q) k
theorem own_ixor (X : Stand p l e R s m args below meth c T locs cells slots) (hx : p.tables.exec = Jvm.exec) (hby : c.code = bytes) {x y : Int32} (hd : decode bytes pc = .ok (.ixor, 1)) (hp : pc + 1 = pc') (k : GoP p e below Φ (T.setTop (mkF m pc' Ls (.int (x ^^^ y) :: rest)))) : GoP p e below Φ (T.setTop (mkF m pc Ls (.int y :: .int x :: rest))) := by
  subst hp
  exact own_step (fun t q => XS.ixor X.here hx rfl (hb hby hd) rfl q) k
theorem own_lxor (X : Stand p l e R s m args below meth c T locs cells slots) (hx : p.tables.exec = Jvm.exec) (hby : c.code = bytes) {x y : Int64} (hd : decode bytes pc = .ok (.lxor, 1)) (hp : pc + 1 = pc') (k : GoP p e below Φ (T.setTop (mkF m pc' Ls (.long (x ^^^ y) :: rest)))) : GoP p e below Φ (T.setTop (mkF m pc Ls (.long y :: .long x :: rest))) := by
  subst hp
  exact own_step (fun t q => XS.lxor X.here hx rfl (hb hby hd) rfl q) k
theorem own_ishl (X : Stand p l e R s m args below meth c T locs cells slots) (hx : p.tables.exec = Jvm.exec) (hby : c.code = bytes) {x : Int32} {y : Int32} (hd : decode bytes pc = .ok (.ishl, 1)) (hp : pc + 1 = pc') (k : GoP p e below Φ (T.setTop (mkF m pc' Ls (.int (x <<< (y &&& 31)) :: rest)))) : GoP p e below Φ (T.setTop (mkF m pc Ls (.int y :: .int x :: rest))) := by
  subst hp
  exact own_step (fun t q => XS.ishl X.here hx rfl (hb hby hd) rfl q) k
theorem own_ishr (X : Stand p l e R s m args below meth c T locs cells slots) (hx : p.tables.exec = Jvm.exec) (hby : c.code = bytes) {x : Int32} {y : Int32} (hd : decode bytes pc = .ok (.ishr, 1)) (hp : pc + 1 = pc') (k : GoP p e below Φ (T.setTop (mkF m pc' Ls (.int (x >>> (y &&& 31)) :: rest)))) : GoP p e below Φ (T.setTop (mkF m pc Ls (.int y :: .int x :: rest))) := by
  subst hp
  exact own_step (fun t q => XS.ishr X.here hx rfl (hb hby hd) rfl q) k
theorem own_iushr (X : Stand p l e R s m args below meth c T locs cells slots) (hx : p.tables.exec = Jvm.exec) (hby : c.code = bytes) {x : Int32} {y : Int32} (hd : decode bytes pc = .ok (.iushr, 1)) (hp : pc + 1 = pc') (k : GoP p e below Φ (T.setTop (mkF m pc' Ls (.int ((x.toUInt32 >>> (y &&& 31).toUInt32).toInt32) :: rest)))) : GoP p e below Φ (T.setTop (mkF m pc Ls (.int y :: .int x :: rest))) := by
  subst hp
  exact own_step (fun t q => XS.iushr X.here hx rfl (hb hby hd) rfl q) k
theorem own_lshl (X : Stand p l e R s m args below meth c T locs cells slots) (hx : p.tables.exec = Jvm.exec) (hby : c.code = bytes) {x : Int64} {y : Int32} (hd : decode bytes pc = .ok (.lshl, 1)) (hp : pc + 1 = pc') (k : GoP p e below Φ (T.setTop (mkF m pc' Ls (.long (x <<< (y &&& 0x3f).toInt64) :: rest)))) : GoP p e below Φ (T.setTop (mkF m pc Ls (.int y :: .long x :: rest))) := by
  subst hp
  exact own_step (fun t q => XS.lshl X.here hx rfl (hb hby hd) rfl q) k
theorem own_lshr (X : Stand p l e R s m args below meth c T locs cells slots) (hx : p.tables.exec = Jvm.exec) (hby : c.code = bytes) {x : Int64} {y : Int32} (hd : decode bytes pc = .ok (.lshr, 1)) (hp : pc + 1 = pc') (k : GoP p e below Φ (T.setTop (mkF m pc' Ls (.long (x >>> (y &&& 0x3f).toInt64) :: rest)))) : GoP p e below Φ (T.setTop (mkF m pc Ls (.int y :: .long x :: rest))) := by
  subst hp
  exact own_step (fun t q => XS.lshr X.here hx rfl (hb hby hd) rfl q) k
theorem own_lushr (X : Stand p l e R s m args below meth c T locs cells slots) (hx : p.tables.exec = Jvm.exec) (hby : c.code = bytes) {x : Int64} {y : Int32} (hd : decode bytes pc = .ok (.lushr, 1)) (hp : pc + 1 = pc') (k : GoP p e below Φ (T.setTop (mkF m pc' Ls (.long ((x.toUInt64 >>> (y &&& 0x3f).toInt64.toUInt64).toInt64) :: rest)))) : GoP p e below Φ (T.setTop (mkF m pc Ls (.int y :: .long x :: rest))) := by
  subst hp
  exact own_step (fun t q => XS.lushr X.here hx rfl (hb hby hd) rfl q) k
theorem own_ineg (X : Stand p l e R s m args below meth c T locs cells slots) (hx : p.tables.exec = Jvm.exec) (hby : c.code = bytes) {x : Int32} (hd : decode bytes pc = .ok (.ineg, 1)) (hp : pc + 1 = pc') (k : GoP p e below Φ (T.setTop (mkF m pc' Ls (.int (-x) :: rest)))) : GoP p e below Φ (T.setTop (mkF m pc Ls (.int x :: rest))) := by
  subst hp
  exact own_step (fun t q => XS.ineg X.here hx rfl (hb hby hd) rfl q) k
theorem own_lneg (X : Stand p l e R s m args below meth c T locs cells slots) (hx : p.tables.exec = Jvm.exec) (hby : c.code = bytes) {x : Int64} (hd : decode bytes pc = .ok (.lneg, 1)) (hp : pc + 1 = pc') (k : GoP p e below Φ (T.setTop (mkF m pc' Ls (.long (-x) :: rest)))) : GoP p e below Φ (T.setTop (mkF m pc Ls (.long x :: rest))) := by
  subst hp
  exact own_step (fun t q => XS.lneg X.here hx rfl (hb hby hd) rfl q) k
theorem own_i2l (X : Stand p l e R s m args below meth c T locs cells slots) (hx : p.tables.exec = Jvm.exec) (hby : c.code = bytes) {x : Int32} (hd : decode bytes pc = .ok (.i2l, 1)) (hp : pc + 1 = pc') (k : GoP p e below Φ (T.setTop (mkF m pc' Ls (.long (x.toInt64) :: rest)))) : GoP p e below Φ (T.setTop (mkF m pc Ls (.int x :: rest))) := by
  subst hp
  exact own_step (fun t q => XS.i2l X.here hx rfl (hb hby hd) rfl q) k
theorem own_l2i (X : Stand p l e R s m args below meth c T locs cells slots) (hx : p.tables.exec = Jvm.exec) (hby : c.code = bytes) {x : Int64} (hd : decode bytes pc = .ok (.l2i, 1)) (hp : pc + 1 = pc') (k : GoP p e below Φ (T.setTop (mkF m pc' Ls (.int (x.toInt32) :: rest)))) : GoP p e below Φ (T.setTop (mkF m pc Ls (.long x :: rest))) := by
  subst hp
  exact own_step (fun t q => XS.l2i X.here hx rfl (hb hby hd) rfl q) k
theorem own_i2b (X : Stand p l e R s m args below meth c T locs cells slots) (hx : p.tables.exec = Jvm.exec) (hby : c.code = bytes) {x : Int32} (hd : decode bytes pc = .ok (.i2b, 1)) (hp : pc + 1 = pc') (k : GoP p e below Φ (T.setTop (mkF m pc' Ls (.int (x.toInt8.toInt32) :: rest)))) : GoP p e below Φ (T.setTop (mkF m pc Ls (.int x :: rest))) := by
  subst hp
  exact own_step (fun t q => XS.i2b X.here hx rfl (hb hby hd) rfl q) k
theorem own_i2s (X : Stand p l e R s m args below meth c T locs cells slots) (hx : p.tables.exec = Jvm.exec) (hby : c.code = bytes) {x : Int32} (hd : decode bytes pc = .ok (.i2s, 1)) (hp : pc + 1 = pc') (k : GoP p e below Φ (T.setTop (mkF m pc' Ls (.int (x.toInt16.toInt32) :: rest)))) : GoP p e below Φ (T.setTop (mkF m pc Ls (.int x :: rest))) := by
  subst hp
  exact own_step (fun t q => XS.i2s X.here hx rfl (hb hby hd) rfl q) k
theorem own_i2c (X : Stand p l e R s m args below meth c T locs cells slots) (hx : p.tables.exec = Jvm.exec) (hby : c.code = bytes) {x : Int32} (hd : decode bytes pc = .ok (.i2c, 1)) (hp : pc + 1 = pc') (k : GoP p e below Φ (T.setTop (mkF m pc' Ls (.int (x.toUInt32.toUInt16.toUInt32.toInt32) :: rest)))) : GoP p e below Φ (T.setTop (mkF m pc Ls (.int x :: rest))) := by
  subst hp
  exact own_step (fun t q => XS.i2c X.here hx rfl (hb hby hd) rfl q) k
theorem own_irem (X : Stand p l e R s m args below meth c T locs cells slots) (hx : p.tables.exec = Jvm.exec) (hby : c.code = bytes) {x y : Int32} (hd : decode bytes pc = .ok (.irem, 1)) (hy : y ≠ 0) (hp : pc + 1 = pc') (k : GoP p e below Φ (T.setTop (mkF m pc' Ls (.int (x % y) :: rest)))) : GoP p e below Φ (T.setTop (mkF m pc Ls (.int y :: .int x :: rest))) := by
  subst hp
  exact own_step (fun t q => iremM X hx rfl (hb hby hd) rfl hy q) k
theorem own_idiv (X : Stand p l e R s m args below meth c T locs cells slots) (hx : p.tables.exec = Jvm.exec) (hby : c.code = bytes) {x y : Int32} (hd : decode bytes pc = .ok (.idiv, 1)) (hy : y ≠ 0) (hp : pc + 1 = pc') (k : GoP p e below Φ (T.setTop (mkF m pc' Ls (.int (x / y) :: rest)))) : GoP p e below Φ (T.setTop (mkF m pc Ls (.int y :: .int x :: rest))) := by
  subst hp
  exact own_step (fun t q => XS.idiv X.here hx rfl (hb hby hd) rfl hy q) k
theorem own_ldiv (X : Stand p l e R s m args below meth c T locs cells slots) (hx : p.tables.exec = Jvm.exec) (hby : c.code = bytes) {x y : Int64} (hd : decode bytes pc = .ok (.ldiv, 1)) (hy : y ≠ 0) (hp : pc + 1 = pc') (k : GoP p e below Φ (T.setTop (mkF m pc' Ls (.long (x / y) :: rest)))) : GoP p e below Φ (T.setTop (mkF m pc Ls (.long y :: .long x :: rest))) := by
  subst hp
  exact own_step (fun t q => XS.ldiv X.here hx rfl (hb hby hd) rfl hy q) k
theorem own_lrem (X : Stand p l e R s m args below meth c T locs cells slots) (hx : p.tables.exec = Jvm.exec) (hby : c.code = bytes) {x y : Int64} (hd : decode bytes pc = .ok (.lrem, 1)) (hy : y ≠ 0) (hp : pc + 1 = pc') (k : GoP p e below Φ (T.setTop (mkF m pc' Ls (.long (x % y) :: rest)))) : GoP p e below Φ (T.setTop (mkF m pc Ls (.long y :: .long x :: rest))) := by
  subst hp
  rw [← lrem_mod] at k
  exact own_step (fun t q => XS.lrem X.here hx rfl (hb hby hd) rfl hy q) k
theorem own_lcmp (X : Stand p l e R s m args below meth c T locs cells slots) (hx : p.tables.exec = Jvm.exec) (hby : c.code = bytes) {x y : Int64} (hd : decode bytes pc = .ok (.lcmp, 1)) (hp : pc + 1 = pc') (k : GoP p e below Φ (T.setTop (mkF m pc' Ls (.int (lcmpW x y) :: rest)))) : GoP p e below Φ (T.setTop (mkF m pc Ls (.long y :: .long x :: rest))) := by
  subst hp
  exact own_step (fun t q => XS.lcmp X.here hx rfl (hb hby hd) rfl q) k
theorem own_iconst (X : Stand p l e R s m args below meth c T locs cells slots) (hx : p.tables.exec = Jvm.exec) (hby : c.code = bytes) {i : Int} {v : Int32} (hd : decode bytes pc = .ok (.iconst i, 1)) (hv : Int32.ofInt i = v) (hp : pc + 1 = pc') (k : GoP p e below Φ (T.setTop (mkF m pc' Ls (.int v :: rest)))) : GoP p e below Φ (T.setTop (mkF m pc Ls (rest))) := by
  subst hp hv
  exact own_step (fun t q => XS.iconst X.here hx rfl (hb hby hd) q) k
theorem own_bipush (X : Stand p l e R s m args below meth c T locs cells slots) (hx : p.tables.exec = Jvm.exec) (hby : c.code = bytes) {i : Int} {v : Int32} (hd : decode bytes pc = .ok (.bipush i, 2)) (hv : (Int8.ofInt i).toInt32 = v) (hp : pc + 2 = pc') (k : GoP p e below Φ (T.setTop (mkF m pc' Ls (.int v :: rest)))) : GoP p e below Φ (T.setTop (mkF m pc Ls (rest))) := by
  subst hp hv
  exact own_step (fun t q => XS.bipush X.here hx rfl (hb hby hd) q) k
theorem own_sipush (X : Stand p l e R s m args below meth c T locs cells slots) (hx : p.tables.exec = Jvm.exec) (hby : c.code = bytes) {i : Int} {v : Int32} (hd : decode bytes pc = .ok (.sipush i, 3)) (hv : (Int16.ofInt i).toInt32 = v) (hp : pc + 3 = pc') (k : GoP p e below Φ (T.setTop (mkF m pc' Ls (.int v :: rest)))) : GoP p e below Φ (T.setTop (mkF m pc Ls (rest))) := by
  subst hp hv
  exact own_step (fun t q => XS.sipush X.here hx rfl (hb hby hd) q) k
theorem own_lconst (X : Stand p l e R s m args below meth c T locs cells slots) (hx : p.tables.exec = Jvm.exec) (hby : c.code = bytes) {i : Fin 2} {v : Int64} (hd : decode bytes pc = .ok (.lconst i, 1)) (hv : Int64.ofNat i = v) (hp : pc + 1 = pc') (k : GoP p e below Φ (T.setTop (mkF m pc' Ls (.long v :: rest)))) : GoP p e below Φ (T.setTop (mkF m pc Ls (rest))) := by
  subst hp hv
  exact own_step (fun t q => XS.lconst X.here hx rfl (hb hby hd) q) k
theorem own_aconst_null (X : Stand p l e R s m args below meth c T locs cells slots) (hx : p.tables.exec = Jvm.exec) (hby : c.code = bytes) (hd : decode bytes pc = .ok (.aconst_null, 1)) (hp : pc + 1 = pc') (k : GoP p e below Φ (T.setTop (mkF m pc' Ls (.null :: rest)))) : GoP p e below Φ (T.setTop (mkF m pc Ls (rest))) := by
  subst hp
  exact own_step (fun t q => XS.aconstNull X.here hx rfl (hb hby hd) q) k
theorem own_dup (X : Stand p l e R s m args below meth c T locs cells slots) (hx : p.tables.exec = Jvm.exec) (hby : c.code = bytes) {x : Value} (hd : decode bytes pc = .ok (.dup, 1)) (hc : x.category = 1) (hp : pc + 1 = pc') (k : GoP p e below Φ (T.setTop (mkF m pc' Ls (x :: x :: rest)))) : GoP p e below Φ (T.setTop (mkF m pc Ls (x :: rest))) := by
  subst hp
  exact own_step (fun t q => XS.dup X.here hx rfl (hb hby hd) rfl hc q) k
theorem own_pop (X : Stand p l e R s m args below meth c T locs cells slots) (hx : p.tables.exec = Jvm.exec) (hby : c.code = bytes) {x : Value} (hd : decode bytes pc = .ok (.pop, 1)) (hc : x.category = 1) (hp : pc + 1 = pc') (k : GoP p e below Φ (T.setTop (mkF m pc' Ls (rest)))) : GoP p e below Φ (T.setTop (mkF m pc Ls (x :: rest))) := by
  subst hp
  exact own_step (fun t q => XS.pop X.here hx rfl (hb hby hd) rfl hc q) k
theorem own_dup_x1 (X : Stand p l e R s m args below meth c T locs cells slots) (hx : p.tables.exec = Jvm.exec) (hby : c.code = bytes) {x y : Value} (hd : decode bytes pc = .ok (.dup_x1, 1)) (hc : x.category = 1) (hc' : y.category = 1) (hp : pc + 1 = pc') (k : GoP p e below Φ (T.setTop (mkF m pc' Ls (x :: y :: x :: rest)))) : GoP p e below Φ (T.setTop (mkF m pc Ls (x :: y :: rest))) := by
  subst hp
  exact own_step (fun t q => XS.dupX1 X.here hx rfl (hb hby hd) rfl hc hc' q) k
theorem own_dup2 (X : Stand p l e R s m args below meth c T locs cells slots) (hx : p.tables.exec = Jvm.exec) (hby : c.code = bytes) {x y : Value} (hd : decode bytes pc = .ok (.dup2, 1)) (hc : x.category = 1) (hc' : y.category = 1) (hp : pc + 1 = pc') (k : GoP p e below Φ (T.setTop (mkF m pc' Ls (x :: y :: x :: y :: rest)))) : GoP p e below Φ (T.setTop (mkF m pc Ls (x :: y :: rest))) := by
  subst hp
  exact own_step (fun t q => XT.dup2 X.here hx rfl (hb hby hd) rfl hc hc' q) k
theorem own_dup2L (X : Stand p l e R s m args below meth c T locs cells slots) (hx : p.tables.exec = Jvm.exec) (hby : c.code = bytes) {x : Int64} (hd : decode bytes pc = .ok (.dup2, 1)) (hp : pc + 1 = pc') (k : GoP p e below Φ (T.setTop (mkF m pc' Ls (.long x :: .long x :: rest)))) : GoP p e below Φ (T.setTop (mkF m pc Ls (.long x :: rest))) := by
  subst hp
  exact own_step (fun t q => XT.dup2L X.here hx rfl (hb hby hd) rfl q) k
theorem own_iinc (X : Stand p l e R s m args below meth c T locs cells slots) (hx : p.tables.exec = Jvm.exec) (hby : c.code = bytes) {k0 : Nat} {i : Int} {x v : Int32} (hd : decode bytes pc = .ok (.iinc k0 i, 3)) (hl : Ls[k0]? = some (.val (.int x))) (hv : Int32.ofInt i = v) (hl' : storeLocals Ls k0 (.int (x + v)) = some Ls') (hp : pc + 3 = pc') (k : GoP p e below Φ (T.setTop (mkF m pc' Ls' (rest)))) : GoP p e below Φ (T.setTop (mkF m pc Ls (rest))) := by
  subst hp hv
  exact own_step (fun t q => XS.iinc X.here hx rfl (hb hby hd) hl hl' q) k
theorem own_goto (X : Stand p l e R s m args below meth c T locs cells slots) (hx : p.tables.exec = Jvm.exec) (hby : c.code = bytes) {o : Int} (hd : decode bytes pc = .ok (.goto o, 3)) (ho : 0 ≤ (pc : Int) + o) (hp : ((pc : Int) + o).toNat = pc') (k : GoP p e below Φ (T.setTop (mkF m pc' Ls (rest)))) : GoP p e below Φ (T.setTop (mkF m pc Ls (rest))) :=
  own_step (fun t q => XS.goto X.here hx rfl (pc0 := pc) (pc' := pc') rfl (hb hby hd) ho hp q) k
theorem own_ifY (X : Stand p l e R s m args below meth c T locs cells slots) (hx : p.tables.exec = Jvm.exec) (hby : c.code = bytes) {cd : ClassFile.Cond} {o : Int} {x : Int32} (hd : decode bytes pc = .ok (.ifCond cd o, 3)) (hc : ifCond.holds cd x = true) (ho : 0 ≤ (pc : Int) + o) (hp : ((pc : Int) + o).toNat = pc') (k : GoP p e below Φ (T.setTop (mkF m pc' Ls (rest)))) : GoP p e below Φ (T.setTop (mkF m pc Ls (.int x :: rest))) :=
  own_step (fun t q => XS.ifYes X.here hx rfl (pc0 := pc) (pc' := pc') rfl (hb hby hd) rfl hc ho hp q) k
theorem own_ifN (X : Stand p l e R s m args below meth c T locs cells slots) (hx : p.tables.exec = Jvm.exec) (hby : c.code = bytes) {cd : ClassFile.Cond} {o : Int} {x : Int32} (hd : decode bytes pc = .ok (.ifCond cd o, 3)) (hc : ifCond.holds cd x = false) (hp : pc + 3 = pc') (k : GoP p e below Φ (T.setTop (mkF m pc' Ls (rest)))) : GoP p e below Φ (T.setTop (mkF m pc Ls (.int x :: rest))) := by
  subst hp
  exact own_step (fun t q => XS.ifNo X.here hx rfl (hb hby hd) rfl hc q) k
theorem own_icmpY (X : Stand p l e R s m args below meth c T locs cells slots) (hx : p.tables.exec = Jvm.exec) (hby : c.code = bytes) {cd : ClassFile.Cond} {o : Int} {x y : Int32} (hd : decode bytes pc = .ok (.if_icmp cd o, 3)) (hc : if_icmp.holds cd x y = true) (ho : 0 ≤ (pc : Int) + o) (hp : ((pc : Int) + o).toNat = pc') (k : GoP p e below Φ (T.setTop (mkF m pc' Ls (rest)))) : GoP p e below Φ (T.setTop (mkF m pc Ls (.int y :: .int x :: rest))) :=
  own_step (fun t q => XS.icmpYes X.here hx rfl (pc0 := pc) (pc' := pc') rfl (hb hby hd) rfl hc ho hp q) k
theorem own_icmpN (X : Stand p l e R s m args below meth c T locs cells slots) (hx : p.tables.exec = Jvm.exec) (hby : c.code = bytes) {cd : ClassFile.Cond} {o : Int} {x y : Int32} (hd : decode bytes pc = .ok (.if_icmp cd o, 3)) (hc : if_icmp.holds cd x y = false) (hp : pc + 3 = pc') (k : GoP p e below Φ (T.setTop (mkF m pc' Ls (rest)))) : GoP p e below Φ (T.setTop (mkF m pc Ls (.int y :: .int x :: rest))) := by
  subst hp
  exact own_step (fun t q => XS.icmpNo X.here hx rfl (hb hby hd) rfl hc q) k
theorem own_ifnullY (X : Stand p l e R s m args below meth c T locs cells slots) (hx : p.tables.exec = Jvm.exec) (hby : c.code = bytes) {o : Int} (hd : decode bytes pc = .ok (.ifnull o, 3)) (ho : 0 ≤ (pc : Int) + o) (hp : ((pc : Int) + o).toNat = pc') (k : GoP p e below Φ (T.setTop (mkF m pc' Ls (rest)))) : GoP p e below Φ (T.setTop (mkF m pc Ls (.null :: rest))) :=
  own_step (fun t q => XS.ifnullYes X.here hx rfl (pc0 := pc) (pc' := pc') rfl (hb hby hd) rfl ho hp q) k
theorem own_ifnullN (X : Stand p l e R s m args below meth c T locs cells slots) (hx : p.tables.exec = Jvm.exec) (hby : c.code = bytes) {o : Int} {b : Addr} (hd : decode bytes pc = .ok (.ifnull o, 3)) (hp : pc + 3 = pc') (k : GoP p e below Φ (T.setTop (mkF m pc' Ls (rest)))) : GoP p e below Φ (T.setTop (mkF m pc Ls (.ref b :: rest))) := by
  subst hp
  exact own_step (fun t q => XS.ifnullNo X.here hx rfl (hb hby hd) rfl q) k
theorem own_ifnonnullY (X : Stand p l e R s m args below meth c T locs cells slots) (hx : p.tables.exec = Jvm.exec) (hby : c.code = bytes) {b : Addr} {o : Int} (hd : decode bytes pc = .ok (.ifnonnull o, 3)) (ho : 0 ≤ (pc : Int) + o) (hp : ((pc : Int) + o).toNat = pc') (k : GoP p e below Φ (T.setTop (mkF m pc' Ls (rest)))) : GoP p e below Φ (T.setTop (mkF m pc Ls (.ref b :: rest))) :=
  own_step (fun t q => XS.ifnonnullYes X.here hx rfl (pc0 := pc) (pc' := pc') rfl (hb hby hd) rfl ho hp q) k
theorem own_ifnonnullN (X : Stand p l e R s m args below meth c T locs cells slots) (hx : p.tables.exec = Jvm.exec) (hby : c.code = bytes) {o : Int} (hd : decode bytes pc = .ok (.ifnonnull o, 3)) (hp : pc + 3 = pc') (k : GoP p e below Φ (T.setTop (mkF m pc' Ls (rest)))) : GoP p e below Φ (T.setTop (mkF m pc Ls (.null :: rest))) := by
  subst hp
  exact own_step (fun t q => XS.ifnonnullNo X.here hx rfl (hb hby hd) rfl q) k
theorem own_acmp (X : Stand p l e R s m args below meth c T locs cells slots) (hx : p.tables.exec = Jvm.exec) (hby : c.code = bytes) {cd : ACond} {x y : Value} {o : Int} (hd : decode bytes pc = .ok (.if_acmp cd o, 3)) (h1 : x.isRef = true) (h2 : y.isRef = true) {same : Bool} (hq : decide (x = y) = same) (ho : 0 ≤ (pc : Int) + o) (hp : pc' = if acV cd same = true then ((pc : Int) + o).toNat else pc + 3) (k : GoP p e below Φ (T.setTop (mkF m pc' Ls (rest)))) : GoP p e below Φ (T.setTop (mkF m pc Ls (y :: x :: rest))) :=
  own_step (fun t q => Jvm.RoadKit.acmp (g := mkF m pc Ls (y :: x :: rest)) X hx rfl h1 h2 (pc0 := pc) (pc' := pc') (same := same) rfl (hb hby hd) rfl hq ho hp q) k
theorem own_ldcI (X : Stand p l e R s m args below meth c T locs cells slots) (hx : p.tables.exec = Jvm.exec) (hby : c.code = bytes) (hZ : Z.Warmed39 s.vm) {own : String} {i : Nat} {v : Int32} (hown : s.vm.findClass own = some m.cls) (w : (Jvm.Cond.constant own i v).before a0 Z = true) (hd : decode bytes pc = .ok (.ldc i, 2)) (hp : pc + 2 = pc') (k : GoP p e below Φ (T.setTop (mkF m pc' Ls (.int v :: rest)))) : GoP p e below Φ (T.setTop (mkF m pc Ls (rest))) := by
  subst hp
  exact own_step (fun t q => Jvm.Stand.ldcI X hx hown (mvT hZ w) rfl (hb hby hd) q) k
theorem own_ldcWI (X : Stand p l e R s m args below meth c T locs cells slots) (hx : p.tables.exec = Jvm.exec) (hby : c.code = bytes) (hZ : Z.Warmed39 s.vm) {own : String} {i : Nat} {v : Int32} (hown : s.vm.findClass own = some m.cls) (w : (Jvm.Cond.constant own i v).before a0 Z = true) (hd : decode bytes pc = .ok (.ldc_w i, 3)) (hp : pc + 3 = pc') (k : GoP p e below Φ (T.setTop (mkF m pc' Ls (.int v :: rest)))) : GoP p e below Φ (T.setTop (mkF m pc Ls (rest))) := by
  subst hp
  exact own_step (fun t q => Jvm.Stand.ldcWI X hx hown (mvT hZ w) rfl (hb hby hd) q) k
theorem own_ldc2J (X : Stand p l e R s m args below meth c T locs cells slots) (hx : p.tables.exec = Jvm.exec) (hby : c.code = bytes) (hZ : Z.Warmed39 s.vm) {own : String} {i : Nat} {v : Int64} (hown : s.vm.findClass own = some m.cls) (w : (Jvm.Cond.constantLong own i v).before a0 Z = true) (hd : decode bytes pc = .ok (.ldc2_w i, 3)) (hp : pc + 3 = pc') (k : GoP p e below Φ (T.setTop (mkF m pc' Ls (.long v :: rest)))) : GoP p e below Φ (T.setTop (mkF m pc Ls (rest))) := by
  subst hp
  exact own_step (fun t q => Jvm.Stand.ldc2J X hx hown (mvT hZ w) rfl (hb hby hd) q) k
/-- a contract of one body at one heap: with these arguments it returns, and Q says what it leaves -/
def Con (l : Launch) (Z : State) (y : MethodName) (bytes : ByteArray) (maxL : Nat) (ret : Option FieldType) (ws : List Jvm.Cond) (rm : Room) (as' : Array Value) (h0 : Heap) (Q : Option Value → Heap → List Loc → Prop) : Prop :=
  MetFree l y (head1 (Jvm.Cond.code y bytes maxL ret :: ws) rm) (fun a U => a = as' ∧ Z.Warmed39 U.vm ∧ U.heap = h0) (fun _ _ _ _ _ => True) (fun _ U o U' => ∃ v L, o = .returned v ∧ Q v U'.heap L ∧ FrameEnd U o U' L rm.cells rm.slots)
/-- where a body may end: at a state that stands, with a value that Q takes -/
def Fin (p : Program) (l : Launch) (e : Env) (R : Room) (s : State) (m : MethodId) (args : Array Value) (below : List Frame) (meth : Method) (c : Code) (Q : Option Value → State → List Loc → Prop) (Φ : State → Prop) : Prop :=
  ∀ (T : State) (locs : List Loc) (cells slots : Nat) (v : Option Value), Stand p l e R s m args below meth c T locs cells slots → (meth.sig.returnType = none → v = none) → Q v T locs → cells ≤ R.cells → slots ≤ R.slots →
    ∃ fs, (∀ (f : JFrame) (acts : List Action), f.method = m → f.locked = none → f.entered = [] → (doReturn e (T.setTop f) acts v).1 = T.setFrames fs) ∧ Φ (T.setFrames fs)
theorem Con.of {y : MethodName} {maxL : Nat} {ret : Option FieldType} {ws : List Jvm.Cond} {rm : Room} {as' : Array Value} {h0 : Heap} {Q : Option Value → Heap → List Loc → Prop} (hpn : plainFor y = true)
    (body : ∀ (p : Program) (e : Env) (s : State) (m : MethodId) (below : List Frame) (meth : Method) (c : Code) (T : State), Stand p l e rm s m as' below meth c T [] 0 0 → p.tables.exec = Jvm.exec → c.code = bytes → c.maxLocals = maxL → s.vm.findClass y.cls = some m.cls → meth.name = y.name → meth.sig.returnType = ret → T.heap = h0 → Z.Warmed39 s.vm → s.heap = h0 →
      ∀ Φ : State → Prop, Fin p l e rm s m as' below meth c (fun v T L => Q v T.heap L) Φ → GoP p e below Φ (T.setTop (entryFrame m as' maxL))) : Con l Z y bytes maxL ret ws rm as' h0 Q := by
  refine MetFree.of_bodySF hpn hisR ?_
  intro p e s m args below meth c s₁ Bd hml0 hP hK
  obtain ⟨rfl, hZ, hh⟩ := hP
  have e0 : s₁.heap = h0 := by rw [← hh, Bd.state]; rfl
  have hlk : meth.locks = false := Bd.notSynchronized
  obtain ⟨t, h1, o, h2⟩ := body p e s m below meth c s₁ (Stand.of_body Bd) Bd.exec Bd.bytes hml0 (findClass_of_methodNamed Bd.named) (name_of_methodNamed Bd.named Bd.method).1 Bd.returns e0 hZ hh
    (fun t => ∃ o, t.status = .running ∧ Ended t below o ∧ ∃ v L, o = .returned v ∧ Q v t.heap L ∧ FrameEnd s o t L rm.cells rm.slots)
    (fun T locs cells slots v X hv hQ hc hs => by
      obtain ⟨fs, hr, hrun, hended, hW, hsame⟩ := X.leave (v := v) hv hlk
      exact ⟨fs, hr, _, hrun, hended, v, locs, rfl, hQ, ⟨_, rfl⟩, hW, hsame.mono hc hs⟩)
  exact ⟨t, o, h1, h2⟩
theorem own_retV (X : Stand p l e R s m args below meth c T locs cells slots) (hx : p.tables.exec = Jvm.exec) (hby : c.code = bytes) {Q : Option Value → State → List Loc → Prop} (fin : Fin p l e R s m args below meth c Q Φ) {t : FieldType} (hret : meth.sig.returnType = some t) {w : Value} {i : Instr} (hn : narrow t w = w)
    (hi : (i = .ireturn ∧ (t = .int ∨ t = .boolean ∨ t = .byte ∨ t = .char ∨ t = .short) ∧ ∃ z, w = .int z) ∨ (i = .lreturn ∧ t = .long ∧ ∃ z, w = .long z) ∨ (i = .dreturn ∧ t = .double ∧ ∃ z, w = .double z) ∨ (i = .freturn ∧ t = .float ∧ ∃ z, w = .float z) ∨ (i = .areturn ∧ t.isReference = true ∧ w.isRef = true))
    (hd : decode bytes pc = .ok (i, 1)) (hc : cells ≤ R.cells) (hs : slots ≤ R.slots) (hQ : Q (some w) T locs) : GoP p e below Φ (T.setTop (mkF m pc Ls (w :: rest))) := by
  obtain ⟨fs, hr, hΦ⟩ := fin _ _ _ _ (some w) X (fun q => by rw [hret] at q; cases q) hQ hc hs
  exact ⟨_, retOut X hx hret hn hi (hb hby hd) hr, hΦ⟩
theorem own_retI (X : Stand p l e R s m args below meth c T locs cells slots) (hx : p.tables.exec = Jvm.exec) (hby : c.code = bytes) {Q : Option Value → State → List Loc → Prop} (fin : Fin p l e R s m args below meth c Q Φ) (hret : meth.sig.returnType = some .int) {z : Int32} (hd : decode bytes pc = .ok (.ireturn, 1)) (hc : cells ≤ R.cells) (hs : slots ≤ R.slots) (hQ : Q (some (.int z)) T locs) : GoP p e below Φ (T.setTop (mkF m pc Ls (.int z :: rest))) :=
  own_retV X hx hby fin hret rfl (Or.inl ⟨rfl, Or.inl rfl, z, rfl⟩) hd hc hs hQ
theorem own_retN (X : Stand p l e R s m args below meth c T locs cells slots) (hx : p.tables.exec = Jvm.exec) (hby : c.code = bytes) {Q : Option Value → State → List Loc → Prop} (fin : Fin p l e R s m args below meth c Q Φ) {t : FieldType} (hret : meth.sig.returnType = some t) (ht : t = .int ∨ t = .boolean ∨ t = .byte ∨ t = .char ∨ t = .short) {z : Int32} (hn : narrow t (.int z) = .int z) (hd : decode bytes pc = .ok (.ireturn, 1)) (hc : cells ≤ R.cells) (hs : slots ≤ R.slots) (hQ : Q (some (.int z)) T locs) : GoP p e below Φ (T.setTop (mkF m pc Ls (.int z :: rest))) :=
  own_retV X hx hby fin hret hn (Or.inl ⟨rfl, ht, z, rfl⟩) hd hc hs hQ
theorem own_retJ (X : Stand p l e R s m args below meth c T locs cells slots) (hx : p.tables.exec = Jvm.exec) (hby : c.code = bytes) {Q : Option Value → State → List Loc → Prop} (fin : Fin p l e R s m args below meth c Q Φ) (hret : meth.sig.returnType = some .long) {z : Int64} (hd : decode bytes pc = .ok (.lreturn, 1)) (hc : cells ≤ R.cells) (hs : slots ≤ R.slots) (hQ : Q (some (.long z)) T locs) : GoP p e below Φ (T.setTop (mkF m pc Ls (.long z :: rest))) :=
  own_retV X hx hby fin hret rfl (Or.inr (Or.inl ⟨rfl, rfl, z, rfl⟩)) hd hc hs hQ
theorem own_retA (X : Stand p l e R s m args below meth c T locs cells slots) (hx : p.tables.exec = Jvm.exec) (hby : c.code = bytes) {Q : Option Value → State → List Loc → Prop} (fin : Fin p l e R s m args below meth c Q Φ) {t : FieldType} (hret : meth.sig.returnType = some t) (ht : t.isReference = true) {w : Value} (hw : w.isRef = true) (hn : narrow t w = w) (hd : decode bytes pc = .ok (.areturn, 1)) (hc : cells ≤ R.cells) (hs : slots ≤ R.slots) (hQ : Q (some w) T locs) : GoP p e below Φ (T.setTop (mkF m pc Ls (w :: rest))) :=
  own_retV X hx hby fin hret hn (Or.inr (Or.inr (Or.inr (Or.inr ⟨rfl, ht, hw⟩)))) hd hc hs hQ
theorem own_ret0 (X : Stand p l e R s m args below meth c T locs cells slots) (hx : p.tables.exec = Jvm.exec) (hby : c.code = bytes) {Q : Option Value → State → List Loc → Prop} (fin : Fin p l e R s m args below meth c Q Φ) (hret : meth.sig.returnType = none) (hd : decode bytes pc = .ok (.return_, 1)) (hc : cells ≤ R.cells) (hs : slots ≤ R.slots) (hQ : Q none T locs) : GoP p e below Φ (T.setTop (mkF m pc Ls ([]))) := by
  obtain ⟨fs, hr, hΦ⟩ := fin _ _ _ _ none X (fun _ => rfl) hQ hc hs
  exact ⟨_, X.returnOut hx hret (hb hby hd) hr, hΦ⟩
theorem own_callS (X : Stand p l e R s m args below meth c T locs cells slots) (hx : p.tables.exec = Jvm.exec) (hby : c.code = bytes) (hZ : Z.Warmed39 s.vm) (hml : Ls.size = c.maxLocals) {own : String} {index : Nat} {y : MethodName} (hown : s.vm.findClass own = some m.cls) (w1 : (Jvm.Cond.methodLink own index y).before a0 Z = true) (w2 : (Jvm.Cond.static y).before a0 Z = true) (w3 : (Jvm.Cond.initialized y.cls).before a0 Z = true) {bytes' : ByteArray} {maxL : Nat} {ret : Option FieldType} (w4 : (Jvm.Cond.code y bytes' maxL ret).before a0 Z = true) (hy : y.cls ≠ "java/lang/invoke/MethodHandle" ∧ y.cls ≠ "java/lang/invoke/VarHandle") {rm : Room} {Q : Option Value → Heap → List Loc → Prop} (eT : T.heap = h) (W : Nat) (hf : rm.frames + 1 ≤ R.frames) (hl : W + (maxL + 11) + rm.locals ≤ R.locals) (hc : cells + rm.cells ≤ R.cells) (hs : slots + rm.slots ≤ R.slots) {argsL rest : List Value} {st : List Value} (hlen : ∀ sig, parseMethodDescriptor y.desc = some sig → argsL.length = sig.parameters.length) (hst : st = argsL.reverse ++ rest) (hM : Con l Z y bytes' maxL ret [] rm argsL.toArray h Q) (hW : (rest.map fun v => v.category).sum ≤ W) (hd : decode bytes pc = .ok (.invokestatic index, 3)) (hp : pc + 3 = pc') (k : ∀ (v : Option Value) (T' : State) (L : List Loc), Stand p l e R s m args below meth c T' (locs ++ L) (cells + rm.cells) (slots + rm.slots) → Q v T'.heap L → GoP p e below Φ (T'.setTop (mkF m pc' Ls (v.toList ++ rest)))) : GoP p e below Φ (T.setTop (mkF m pc Ls st)) := by
  obtain ⟨v, _, ⟨T', L', k', n'⟩, -, X', ⟨L, hQ, l1, y1, z1⟩, st'⟩ := Jvm.LawKit.callS X hx (y := y) hown (mvT hZ w1) (mvT hZ w2) (mvT hZ w3) (mvT hZ w4) hy (backOf (W := W) hM hZ w4 w3 hf hl) (g := mkF m pc Ls st) rfl hml (argsL := argsL) (rest := rest) hlen hst (by show 2 * 0 + _ ≤ _; omega) (hb hby hd) (fun _ _ => ⟨rfl, eT, hc, hs⟩)
  dsimp only [Pt.U, Pt.locs, Pt.cells, Pt.slots] at X' l1 y1 z1 st' hQ
  subst l1 y1 z1 hp
  exact own_step st' (k _ _ _ X' hQ)
theorem own_callI (X : Stand p l e R s m args below meth c T locs cells slots) (hx : p.tables.exec = Jvm.exec) (hby : c.code = bytes) (hZ : Z.Warmed39 s.vm) (hml : Ls.size = c.maxLocals) {own : String} {index : Nat} {y : MethodName} (hown : s.vm.findClass own = some m.cls) {a : Addr} (hn : y.name = "<init>") (w1 : (Jvm.Cond.methodLink own index y).before a0 Z = true) (w2 : (Jvm.Cond.instanceMethod y).before a0 Z = true) (w3 : (Jvm.Cond.initialized y.cls).before a0 Z = true) {bytes' : ByteArray} {maxL : Nat} (w4 : (Jvm.Cond.code y bytes' maxL none).before a0 Z = true) (hy : y.cls ≠ "java/lang/invoke/MethodHandle" ∧ y.cls ≠ "java/lang/invoke/VarHandle") {rm : Room} {Q : Option Value → Heap → List Loc → Prop} (eT : T.heap = h) (W : Nat) (hf : rm.frames + 1 ≤ R.frames) (hl : W + (maxL + 11) + rm.locals ≤ R.locals) (hc : cells + rm.cells ≤ R.cells) (hs : slots + rm.slots ≤ R.slots) {argsL rest : List Value} {st : List Value} (hlen : ∀ sig, parseMethodDescriptor y.desc = some sig → argsL.length = sig.parameters.length) (hst : st = argsL.reverse ++ .ref a :: rest) (hW : (rest.map fun v => v.category).sum ≤ W) (hM : Con l Z y bytes' maxL none [] rm (.ref a :: argsL).toArray h Q) (hd : decode bytes pc = .ok (.invokespecial index, 3)) (hp : pc + 3 = pc') (k : ∀ (v : Option Value) (T' : State) (L : List Loc), Stand p l e R s m args below meth c T' (locs ++ L) (cells + rm.cells) (slots + rm.slots) → Q v T'.heap L → GoP p e below Φ (T'.setTop (mkF m pc' Ls (v.toList ++ rest)))) : GoP p e below Φ (T.setTop (mkF m pc Ls st)) := by
  obtain ⟨v, _, ⟨T', L', k', n'⟩, -, X', ⟨L, hQ, l1, y1, z1⟩, st'⟩ := X.specialBack hx (y := y) hn hown (mvT hZ w1) (mvT hZ w2) (mvT hZ w4) hy (backOf (W := W) hM hZ w4 w3 hf hl) (g := mkF m pc Ls st) rfl hml (Steps.refl _) (a := a) (argsL := argsL) (rest := rest) hlen hst (by show 2 * 0 + _ ≤ _; omega) (hb hby hd) (fun _ _ => ⟨rfl, eT, hc, hs⟩)
  dsimp only [Pt.U, Pt.locs, Pt.cells, Pt.slots] at X' l1 y1 z1 st' hQ
  subst l1 y1 z1 hp
  exact own_trans st' (k _ _ _ X' hQ)
theorem own_callV (X : Stand p l e R s m args below meth c T locs cells slots) (hx : p.tables.exec = Jvm.exec) (hby : c.code = bytes) (hZ : Z.Warmed39 s.vm) (hml : Ls.size = c.maxLocals) {own : String} {index : Nat} {y : MethodName} (hown : s.vm.findClass own = some m.cls) {C : String} {b : Addr} (w1 : (Jvm.Cond.methodLink own index y).before a0 Z = true) (w2 : (Jvm.Cond.declares y).before a0 Z = true) (w5 : (Jvm.Cond.selects C y y).before a0 Z = true) (w6 : (Jvm.Cond.instanceMethod y).before a0 Z = true) (w3 : (Jvm.Cond.initialized y.cls).before a0 Z = true) {bytes' : ByteArray} {maxL : Nat} {ret : Option FieldType} (w4 : (Jvm.Cond.code y bytes' maxL ret).before a0 Z = true) (hy : y.cls ≠ "java/lang/invoke/MethodHandle" ∧ y.cls ≠ "java/lang/invoke/VarHandle") {rm : Room} {Q : Option Value → Heap → List Loc → Prop} (eT : T.heap = h) (W : Nat) (hf : rm.frames + 1 ≤ R.frames) (hl : W + (maxL + 11) + rm.locals ≤ R.locals) (hc : cells + rm.cells ≤ R.cells) (hs : slots + rm.slots ≤ R.slots) {argsL rest : List Value} {st : List Value} (hlen : ∀ sig, parseMethodDescriptor y.desc = some sig → argsL.length = sig.parameters.length) (hst : st = argsL.reverse ++ .ref b :: rest) (hW : (rest.map fun v => v.category).sum ≤ W) (E : Exa Z h b C) (hM : Con l Z y bytes' maxL ret [] rm (.ref b :: argsL).toArray h Q) (hd : decode bytes pc = .ok (.invokevirtual index, 3)) (hp : pc + 3 = pc') (k : ∀ (v : Option Value) (T' : State) (L : List Loc), Stand p l e R s m args below meth c T' (locs ++ L) (cells + rm.cells) (slots + rm.slots) → Q v T'.heap L → GoP p e below Φ (T'.setTop (mkF m pc' Ls (v.toList ++ rest)))) : GoP p e below Φ (T.setTop (mkF m pc Ls st)) := by
  obtain ⟨cq, kq, qa, qb, qc⟩ := isOf hZ eT E
  obtain ⟨v, _, ⟨T', L', k', n'⟩, -, X', ⟨L, hQ, l1, y1, z1⟩, st'⟩ := X.virtualBack hx (y := y) (z := y) hown (mvT hZ w1) (mvT hZ w2) (notFace_of_selects (args := #[]) (mvT hZ w5)) (mvT hZ w5) (mvT hZ w6) hy (backOf (W := W) hM hZ w4 w3 hf hl) qa qc (g := mkF m pc Ls st) rfl hml (Steps.refl _) (argsL := argsL) (rest := rest) hlen hst (by show 2 * 0 + _ ≤ _; omega) (hb hby hd) (fun _ _ => ⟨rfl, eT, hc, hs⟩)
  dsimp only [Pt.U, Pt.locs, Pt.cells, Pt.slots] at X' l1 y1 z1 st' hQ
  subst l1 y1 z1 hp
  exact own_trans st' (k _ _ _ X' hQ)
theorem own_callU (X : Stand p l e R s m args below meth c T locs cells slots) (hx : p.tables.exec = Jvm.exec) (hby : c.code = bytes) (hZ : Z.Warmed39 s.vm) (hml : Ls.size = c.maxLocals) {own : String} {index : Nat} {x0 y : MethodName} (hown : s.vm.findClass own = some m.cls) {C owner : String} {b : Addr} (w1 : (Jvm.Cond.methodLink own index x0).before a0 Z = true) (ws : (Jvm.Cond.sameMethod x0.cls owner x0.name x0.desc).before a0 Z = true) (w2 : (Jvm.Cond.declares ⟨owner, x0.name, x0.desc⟩).before a0 Z = true) (w5 : (Jvm.Cond.selects C x0 y).before a0 Z = true) (w6 : (Jvm.Cond.instanceMethod y).before a0 Z = true) (w3 : (Jvm.Cond.initialized y.cls).before a0 Z = true) {bytes' : ByteArray} {maxL : Nat} {ret : Option FieldType} (w4 : (Jvm.Cond.code y bytes' maxL ret).before a0 Z = true) (hy : owner ≠ "java/lang/invoke/MethodHandle" ∧ owner ≠ "java/lang/invoke/VarHandle") {rm : Room} {Q : Option Value → Heap → List Loc → Prop} (eT : T.heap = h) (W : Nat) (hf : rm.frames + 1 ≤ R.frames) (hl : W + (maxL + 11) + rm.locals ≤ R.locals) (hc : cells + rm.cells ≤ R.cells) (hs : slots + rm.slots ≤ R.slots) {argsL rest : List Value} {st : List Value} (hlen : ∀ sig, parseMethodDescriptor x0.desc = some sig → argsL.length = sig.parameters.length) (hst : st = argsL.reverse ++ .ref b :: rest) (hW : (rest.map fun v => v.category).sum ≤ W) (E : Exa Z h b C) (hM : Con l Z y bytes' maxL ret [] rm (.ref b :: argsL).toArray h Q) (hd : decode bytes pc = .ok (.invokevirtual index, 3)) (hp : pc + 3 = pc') (k : ∀ (v : Option Value) (T' : State) (L : List Loc), Stand p l e R s m args below meth c T' (locs ++ L) (cells + rm.cells) (slots + rm.slots) → Q v T'.heap L → GoP p e below Φ (T'.setTop (mkF m pc' Ls (v.toList ++ rest)))) : GoP p e below Φ (T.setTop (mkF m pc Ls st)) := by
  obtain ⟨cq, kq, qa, qb, qc⟩ := isOf hZ eT E
  obtain ⟨v, _, ⟨T', L', k', n'⟩, -, X', ⟨L, hQ, l1, y1, z1⟩, st'⟩ := X.virtualBackUp hx (x := x0) (y := y) hown (mvT hZ w1) (mvT hZ ws) (mvT hZ w2) hy (mvT hZ w5) (mvT hZ w6) (backOf (W := W) hM hZ w4 w3 hf hl) qa qc (g := mkF m pc Ls st) rfl hml (Steps.refl _) (argsL := argsL) (rest := rest) hlen hst (by show 2 * 0 + _ ≤ _; omega) (hb hby hd) (fun _ _ => ⟨rfl, eT, hc, hs⟩)
  dsimp only [Pt.U, Pt.locs, Pt.cells, Pt.slots] at X' l1 y1 z1 st' hQ
  subst l1 y1 z1 hp
  exact own_trans st' (k _ _ _ X' hQ)
theorem own_callF (X : Stand p l e R s m args below meth c T locs cells slots) (hx : p.tables.exec = Jvm.exec) (hby : c.code = bytes) (hZ : Z.Warmed39 s.vm) (hml : Ls.size = c.maxLocals) {own : String} {index : Nat} {x0 y : MethodName} (hown : s.vm.findClass own = some m.cls) {count : Nat} {C : String} {b : Addr} (w1 : (Jvm.Cond.methodLink own index x0).before a0 Z = true) (w2 : (Jvm.Cond.declares x0).before a0 Z = true) (w7 : (Jvm.Cond.interfaceMethod x0.cls x0.cls x0.name x0.desc).before a0 Z = true) (w5 : (Jvm.Cond.selects C x0 y).before a0 Z = true) (w6 : (Jvm.Cond.instanceMethod y).before a0 Z = true) (w8 : (Jvm.Cond.publicMethod y).before a0 Z = true) (w9 : (Jvm.Cond.unhidden C x0.name x0.desc).before a0 Z = true) (w10 : (Jvm.Cond.castable C x0.cls).before a0 Z = true) (w3 : (Jvm.Cond.initialized y.cls).before a0 Z = true) (q7 : ((Jvm.Cond.interfaceMethod x0.cls x0.cls x0.name x0.desc).onTables && (Jvm.Cond.interfaceMethod x0.cls x0.cls x0.name x0.desc).keepsFace) = true) {bytes' : ByteArray} {maxL : Nat} {ret : Option FieldType} (w4 : (Jvm.Cond.code y bytes' maxL ret).before a0 Z = true) (hy : x0.cls ≠ "java/lang/invoke/MethodHandle" ∧ x0.cls ≠ "java/lang/invoke/VarHandle") {rm : Room} {Q : Option Value → Heap → List Loc → Prop} (eT : T.heap = h) (W : Nat) (hf : rm.frames + 1 ≤ R.frames) (hl : W + (maxL + 11) + rm.locals ≤ R.locals) (hc : cells + rm.cells ≤ R.cells) (hs : slots + rm.slots ≤ R.slots) {argsL rest : List Value} {st : List Value} (hlen : ∀ sig, parseMethodDescriptor x0.desc = some sig → argsL.length = sig.parameters.length) (hst : st = argsL.reverse ++ .ref b :: rest) (hW : (rest.map fun v => v.category).sum ≤ W) (E : Exa Z h b C) (hM : Con l Z y bytes' maxL ret [] rm (.ref b :: argsL).toArray h Q) (hd : decode bytes pc = .ok (.invokeinterface index count, 5)) (hp : pc + 5 = pc') (k : ∀ (v : Option Value) (T' : State) (L : List Loc), Stand p l e R s m args below meth c T' (locs ++ L) (cells + rm.cells) (slots + rm.slots) → Q v T'.heap L → GoP p e below Φ (T'.setTop (mkF m pc' Ls (v.toList ++ rest)))) : GoP p e below Φ (T.setTop (mkF m pc Ls st)) := by
  obtain ⟨cq, kq, qa, qb, qc⟩ := isOf hZ eT E
  obtain ⟨v, _, ⟨T', L', k', n'⟩, -, X', ⟨L, hQ, l1, y1, z1⟩, st'⟩ := X.interfaceBack hx (xi := x0) (y := y) hown (mvT hZ w1) (mvT hZ w2) (mvT hZ w7 q7) (mvT hZ w5) (mvT hZ w6) (mvT hZ w8) (mvT hZ w9) (mvT hZ w10) hy (backOf (W := W) hM hZ w4 w3 hf hl) qa qb qc (g := mkF m pc Ls st) rfl hml (Steps.refl _) (argsL := argsL) (rest := rest) hlen hst (by show 2 * 0 + _ ≤ _; omega) (hb hby hd) (fun _ _ => ⟨rfl, eT, hc, hs⟩)
  dsimp only [Pt.U, Pt.locs, Pt.cells, Pt.slots] at X' l1 y1 z1 st' hQ
  subst l1 y1 z1 hp
  exact own_trans st' (k _ _ _ X' hQ)
theorem own_callP (X : Stand p l e R s m args below meth c T locs cells slots) (hx : p.tables.exec = Jvm.exec) (hby : c.code = bytes) (hZ : Z.Warmed39 s.vm) (hml : Ls.size = c.maxLocals) {own : String} {index : Nat} {y : MethodName} (hown : s.vm.findClass own = some m.cls) {C : String} {b : Addr} (w1 : (Jvm.Cond.methodLink own index y).before a0 Z = true) (w2 : (Jvm.Cond.privateMethod y).before a0 Z = true) (w5 : (Jvm.Cond.selects y.cls y y).before a0 Z = true) (w6 : (Jvm.Cond.instanceMethod y).before a0 Z = true) (w3 : (Jvm.Cond.initialized y.cls).before a0 Z = true) {bytes' : ByteArray} {maxL : Nat} {ret : Option FieldType} (w4 : (Jvm.Cond.code y bytes' maxL ret).before a0 Z = true) (hy : y.cls ≠ "java/lang/invoke/MethodHandle" ∧ y.cls ≠ "java/lang/invoke/VarHandle") {rm : Room} {Q : Option Value → Heap → List Loc → Prop} (eT : T.heap = h) (W : Nat) (hf : rm.frames + 1 ≤ R.frames) (hl : W + (maxL + 11) + rm.locals ≤ R.locals) (hc : cells + rm.cells ≤ R.cells) (hs : slots + rm.slots ≤ R.slots) {argsL rest : List Value} {st : List Value} (hlen : ∀ sig, parseMethodDescriptor y.desc = some sig → argsL.length = sig.parameters.length) (hst : st = argsL.reverse ++ .ref b :: rest) (hW : (rest.map fun v => v.category).sum ≤ W) (E : Exa Z h b C) (hM : Con l Z y bytes' maxL ret [] rm (.ref b :: argsL).toArray h Q) (hd : decode bytes pc = .ok (.invokevirtual index, 3)) (hp : pc + 3 = pc') (k : ∀ (v : Option Value) (T' : State) (L : List Loc), Stand p l e R s m args below meth c T' (locs ++ L) (cells + rm.cells) (slots + rm.slots) → Q v T'.heap L → GoP p e below Φ (T'.setTop (mkF m pc' Ls (v.toList ++ rest)))) : GoP p e below Φ (T.setTop (mkF m pc Ls st)) := by
  obtain ⟨cq, q1, q2⟩ := E.cell
  obtain ⟨v, _, ⟨T', L', k', n'⟩, -, X', ⟨L, hQ, l1, y1, z1⟩, st'⟩ := X.privateBack hx (y := y) hown (mvT hZ w1) (mvT hZ w6) (mvT hZ w5) (Cond.privateMethod_at (mvP hZ w2 (args := #[]))) (mvT hZ w4) hy (backOf (W := W) hM hZ w4 w3 hf hl) (g := mkF m pc Ls st) rfl hml (Steps.refl _) (a := b) (by rw [eT]; exact q1) q2 (argsL := argsL) (rest := rest) hlen hst (by show 2 * 0 + _ ≤ _; omega) (hb hby hd) (fun _ _ => ⟨rfl, eT, hc, hs⟩)
  dsimp only [Pt.U, Pt.locs, Pt.cells, Pt.slots] at X' l1 y1 z1 st' hQ
  subst l1 y1 z1 hp
  exact own_trans st' (k _ _ _ X' hQ)
theorem own_fldI {args : Array Value} {s : State} {t : Term} {a : Addr} {C n d : String} {k : Int32} (ev : t.eval args s none [] s = some (.ref a)) (q : (Jvm.Cond.eq (Jvm.Term.field t C n d) (Jvm.Term.int k)).value args s none s [] = some true) : Fld s s.heap a C n d (.int k) := by
  obtain ⟨x, y, e1, e2, k1, k2⟩ := cmp_v (Or.inl q)
  have ey : y = .int k := Option.some.inj (e2.symm.trans (Term.int_eval k))
  subst ey
  obtain ⟨z, rfl⟩ : ∃ z, x = .int z := k2
  have ez : z = k := by simpa [Cond.value, e1, e2] using q
  subst ez
  exact Fld.start ((fld_at ev).symm.trans e1)
theorem own_i32 (x : Int32) (k : Int) (hk : (Int32.ofInt k).toInt = k) (h : x.toInt = k) : x = Int32.ofInt k := Int32.toInt_inj.mp (h.trans hk.symm)
theorem own_stakeep {C n d : String} {w : Value} {h' : Heap} {ws : List Addr} (F : Sta Z h C n d w) (K : Keep h h' ws) (q : ∀ x ∈ ws, ∀ c : Cell, h[x]? = some c → c.vm.isStatics = false) : Sta Z h' C n d w := by
  obtain ⟨cf, i, k, f, st, cell, h1, h2, h3, h4, h5, h6, h7⟩ := F
  exact ⟨cf, i, k, f, st, cell, h1, h2, h3, h4, K.2.1 st cell h5 (fun y => by rw [q st y cell h5] at h6; cases h6), h6, h7⟩
theorem own_plainE {a : Addr} {C : String} (F : Exa Z h a C) : ∀ c : Cell, h[a]? = some c → c.vm.isStatics = false := fun c hc => by
  obtain ⟨cell, k, h1, h2, h3, h4, -⟩ := F
  cases hc.symm.trans h1; exact h4
theorem own_plainV {a : Addr} {k : ClassId} {ty : FieldType} {n : Int32} {vs : List Value} {d : Value} (F : Arv Z h a k ty n vs d) : ∀ c : Cell, h[a]? = some c → c.vm.isStatics = false := fun c hc => by
  obtain ⟨cell, A, -⟩ := F
  cases hc.symm.trans A.1; exact A.plain
/-- an int array of length n, of whatever ints -/
def IA (Z : State) (h : Heap) (a : Addr) (n : Int32) : Prop := ∃ cl : Cell, Arr Z h a cl .int ∧ cl.slots.size = n.toNatClampNeg ∧ ¬ n < 0 ∧ ∀ i, i < cl.slots.size → ∃ x, cl.slots[i]? = some (.int x)
theorem IA.lt {a : Addr} {n : Int32} (F : IA Z h a n) : a < h.size := by obtain ⟨cl, A, -⟩ := F; exact A.lt
theorem IA.ext {a : Addr} {n : Int32} {h' : Heap} (F : IA Z h a n) (E : Ext h h') : IA Z h' a n := by obtain ⟨cl, A, r⟩ := F; exact ⟨cl, A.ext E, r⟩
theorem IA.other {a b : Addr} {n : Int32} {h' : Heap} {sl : Nat} {v : Value} (F : IA Z h b n) (W : Wr h h' a sl v) (q : b ≠ a) : IA Z h' b n := by obtain ⟨cl, A, r⟩ := F; exact ⟨cl, A.other W q, r⟩
theorem IA.keep {a : Addr} {n : Int32} {h' : Heap} {ws : List Addr} (F : IA Z h a n) (K : Keep h h' ws) (q : a ∉ ws) : IA Z h' a n := by obtain ⟨cl, A, r⟩ := F; exact ⟨cl, ⟨K.2.1 a cl A.1 q, A.2⟩, r⟩
theorem IA.plain {a : Addr} {n : Int32} (F : IA Z h a n) : ∀ c : Cell, h[a]? = some c → c.vm.isStatics = false := fun c hc => by
  obtain ⟨cl, A, -⟩ := F
  cases hc.symm.trans A.1; exact A.plain
theorem IA.arv {a : Addr} {n : Int32} (F : IA Z h a n) : ∃ k vs, Arv Z h a k .int n vs (.int 0) ∧ vs.length = n.toNatClampNeg := by
  obtain ⟨cl, A, S, N, H⟩ := F
  have q : ∀ i, i < cl.slots.size → cl.slots[i]? = some (cl.slots.toList.getD i (.int 0)) := fun i hi => by
    rw [List.getD_eq_getElem?_getD, Array.getElem?_toList, Array.getElem?_eq_getElem hi]; rfl
  refine ⟨cl.cls, cl.slots.toList, ⟨cl, A, rfl, S, N, q, fun i hi => ?_⟩, by rw [Array.length_toList]; exact S⟩
  obtain ⟨x, hx⟩ := H i hi
  rw [← Option.some.inj ((hx.symm.trans (q i hi)))]; rfl
theorem IA.of {a : Addr} {n : Int32} {k : ClassId} {vs : List Value} {d : Value} (F : Arv Z h a k .int n vs d) : IA Z h a n := by
  obtain ⟨cl, A, -, S, N, H, G⟩ := F
  refine ⟨cl, A, S, N, fun i hi => ?_⟩
  obtain ⟨x, hx⟩ := fit_I (G i hi) (Or.inl rfl)
  exact ⟨x, by rw [H i hi, hx]⟩
theorem own_clamp {x : Int32} {k : Nat} (q : x.toInt ≤ k) : x.toNatClampNeg ≤ k := by simp only [Int32.toNatClampNeg]; omega
theorem own_nat {x : Int32} {k : Nat} (q : x.toInt = k) : x.toNatClampNeg = k := by simp only [Int32.toNatClampNeg]; omega
theorem own_ltI {x y : Int32} (q : x.toInt < y.toInt) : x < y := Int32.lt_iff_toInt_lt.mpr q
theorem own_geI {x y : Int32} (q : y.toInt ≤ x.toInt) : ¬ x < y := fun u => by rw [Int32.lt_iff_toInt_lt] at u; omega
theorem own_add32 {x y : Int32} {k : Int} (q : x.toInt + y.toInt = k) (h1 : -2147483648 ≤ k) (h2 : k < 2147483648) : (x + y).toInt = k := by
  have a := c_iadd x y; have b := rng32 (x + y); omega
theorem own_sub32 {x y : Int32} {k : Int} (q : x.toInt - y.toInt = k) (h1 : -2147483648 ≤ k) (h2 : k < 2147483648) : (x - y).toInt = k := by
  have a := c_isub x y; have b := rng32 (x - y); omega
theorem IA.new {a : Addr} {k : ClassId} {n : Int32} (A : Arr Z h a (newA k .int n) .int) (q : ¬ n < 0) : IA Z h a n :=
  ⟨_, A, sz_new _ _ _, q, fun i hi => ⟨0, by simp [newA] at hi ⊢; simp [defaultValue, hi]⟩⟩
theorem own_iastoreA (X : Stand p l e R s m args below meth c T locs cells slots) (hx : p.tables.exec = Jvm.exec) (hby : c.code = bytes) (hZ : Z.Warmed39 s.vm) (eT : T.heap = h) {a : Addr} {n j x : Int32} (F : IA Z h a n) (hj : ¬ j < 0 ∧ j < n) (hd : decode bytes pc = .ok (.iastore, 1)) (hp : pc + 1 = pc') (k : ∀ (T' : State) (h' : Heap), Stand p l e R s m args below meth c T' (locs ++ [⟨a, j.toNatClampNeg⟩]) cells slots → T'.heap = h' → Wr h h' a j.toNatClampNeg (.int x) → IA Z h' a n → GoP p e below Φ (T'.setTop (mkF m pc' Ls rest))) : GoP p e below Φ (T.setTop (mkF m pc Ls (.int x :: .int j :: .ref a :: rest))) := by
  subst hp
  obtain ⟨cl, A, S, N, H⟩ := F
  obtain ⟨T', h', X', e', W', st'⟩ := stI X hx hZ eT A (j := j) (x := x) (inb_of S hj) (g := mkF m pc Ls (.int x :: .int j :: .ref a :: rest)) rfl rfl (hb hby hd)
  refine own_step st' (k T' h' X' e' W' ⟨_, A.same W', by rw [sz_set]; exact S, N, fun i hi => ?_⟩)
  rw [sz_set] at hi
  by_cases q : i = j.toNatClampNeg
  · subst q; exact ⟨x, by simp [Cell.setSlot, hi]⟩
  · obtain ⟨y, hy⟩ := H i hi
    exact ⟨y, by rw [show (cl.setSlot j.toNatClampNeg (.int x)).slots[i]? = cl.slots[i]? from Array.getElem?_setIfInBounds_ne (Ne.symm q)]; exact hy⟩
theorem own_ialoadA (X : Stand p l e R s m args below meth c T locs cells slots) (hx : p.tables.exec = Jvm.exec) (hby : c.code = bytes) (hZ : Z.Warmed39 s.vm) (eT : T.heap = h) {a : Addr} {n j : Int32} (F : IA Z h a n) (hj : ¬ j < 0 ∧ j < n) (hd : decode bytes pc = .ok (.iaload, 1)) (hp : pc + 1 = pc') (k : ∀ w : Int32, GoP p e below Φ (T.setTop (mkF m pc' Ls (.int w :: rest)))) : GoP p e below Φ (T.setTop (mkF m pc Ls (.int j :: .ref a :: rest))) := by
  subst hp
  obtain ⟨cl, A, S, N, H⟩ := F
  have q := inb_of S hj
  obtain ⟨w, hw⟩ := H j.toNatClampNeg (Nat.lt_of_not_le fun y => q (Or.inr y))
  exact own_step (fun t u => X.iaload hx (j := j) (v := .int w) (by rw [eT]; exact A.1) (State.isArrayOf_alike hZ.alike A.2.1) A.2.2 q hw (g := mkF m pc Ls (.int j :: .ref a :: rest)) rfl rfl (hb hby hd) t u) (k w)
theorem own_alenA (X : Stand p l e R s m args below meth c T locs cells slots) (hx : p.tables.exec = Jvm.exec) (hby : c.code = bytes) (hZ : Z.Warmed39 s.vm) (eT : T.heap = h) {a : Addr} {n : Int32} (F : IA Z h a n) (hd : decode bytes pc = .ok (.arraylength, 1)) (hp : pc + 1 = pc') (k : GoP p e below Φ (T.setTop (mkF m pc' Ls (.int n :: rest)))) : GoP p e below Φ (T.setTop (mkF m pc Ls (.ref a :: rest))) := by
  subst hp
  obtain ⟨cl, A, S, N, H⟩ := F
  rw [← len_of S N] at k
  exact own_step (fun t u => X.arraylength hx (by rw [eT]; exact A.1) (State.isArrayOf_alike hZ.alike A.2.1) (g := mkF m pc Ls (.ref a :: rest)) rfl rfl (hb hby hd) t u) k
theorem own_copyA (X : Stand p l e R s m args below meth c T locs cells slots) (hx : p.tables.exec = Jvm.exec) (hby : c.code = bytes) (hZ : Z.Warmed39 s.vm) (hml : Ls.size = c.maxLocals) {own : String} {index : Nat} (hown : s.vm.findClass own = some m.cls) (w1 : (Jvm.Cond.methodLink own index Jvm.Stand.acN).before a0 Z = true) (w2 : (Jvm.Cond.native Jvm.Stand.acN).before a0 Z = true) (w3 : (Jvm.Cond.static Jvm.Stand.acN).before a0 Z = true) (w4 : (Jvm.Cond.initialized "java/lang/System").before a0 Z = true) (eT : T.heap = h) {a b : Addr} {n n' sp dp nn : Int32} (A : IA Z h a n) (B : IA Z h b n') (h1 : ¬ sp < 0) (h2 : ¬ dp < 0) (h3 : ¬ nn < 0) (h4 : sp.toNatClampNeg + nn.toNatClampNeg ≤ n.toNatClampNeg) (h5 : dp.toNatClampNeg + nn.toNatClampNeg ≤ n'.toNatClampNeg) {n0 : Nat} (N : Fr n0 locs) (ge : n0 ≤ b) (hf : 1 ≤ R.frames) (W : Nat) (hW : (rest.map fun v => v.category).sum ≤ W) (hlo : W + (nativeFrameWords "java/lang/System" "arraycopy" 5 + 11) ≤ R.locals) (hd : decode bytes pc = .ok (.invokestatic index, 3)) (hp : pc + 3 = pc') (k : ∀ (T' : State) (h' : Heap) (L : List Loc), Stand p l e R s m args below meth c T' L cells slots → T'.heap = h' → Fr n0 L → Keep h h' [b] → IA Z h' b n' → GoP p e below Φ (T'.setTop (mkF m pc' Ls rest))) : GoP p e below Φ (T.setTop (mkF m pc Ls (.int nn :: .int dp :: .ref b :: .int sp :: .ref a :: rest))) := by
  subst hp
  obtain ⟨k1, vs, Av, la⟩ := A.arv
  obtain ⟨k2, vd, Bv, lb⟩ := B.arv
  obtain ⟨T', h', L, X', e', N', K', B', st'⟩ := cpA X hx hZ hown w1 w2 w3 w4 eT Av Bv (Or.inl ⟨rfl, rfl⟩) h1 h2 h3 h4 h5 rfl (by rw [lb]; exact h5) N ge (g := mkF m pc Ls (.int nn :: .int dp :: .ref b :: .int sp :: .ref a :: rest)) rfl hml rfl (hb hby hd) hf (W := W) (by show 2 * 0 + _ ≤ _; omega) hlo
  exact own_step st' (k T' h' L X' e' N' K' (IA.of B'))
end OwnKit
section OwnKitW
variable {p : Program} {l : Launch} {e : Env} {R : Room} {s : State} {vm0 : Vm} {m : MethodId} {args : Array Value} {below : List Frame} {meth : Method} {c : Code} {T : State} {locs : List Loc} {cells slots : Nat} {bytes : ByteArray} {Φ : State → Prop} {pc pc' : Nat} {Ls Ls' : Array Slot} {rest : List Value} {Z : State} {a0 : Array Value} {h : Heap} {k0 : Nat}
def ConW (l : Launch) (Z : State) (y : MethodName) (bytes : ByteArray) (maxL : Nat) (ret : Option FieldType) (ws : List Jvm.Cond) (rm : Room) (as' : Array Value) (h0 : Heap) (Q : Option Value → Heap → List Loc → Prop) : Prop :=
  MetFree l y (head1 (Jvm.Cond.code y bytes maxL ret :: ws) rm) (fun a U => a = as' ∧ Z.Warmed39 U.vm ∧ U.heap = h0) (fun _ _ _ _ _ => True) (fun _ U o U' => ∃ v L, o = .returned v ∧ Q v U'.heap L ∧ ReturnedEndW U o U' L rm.cells rm.slots)
def FinW (p : Program) (l : Launch) (e : Env) (R : Room) (s : State) (m : MethodId) (args : Array Value) (below : List Frame) (meth : Method) (c : Code) (Q : Option Value → Heap → List Loc → Prop) (Φ : State → Prop) : Prop :=
  ∀ (vm0 : Vm) (k0 : Nat), s.Since vm0 k0 → Fin p l e R (s.setVm vm0) m args below meth c (fun v T L => Q v T.heap L ∧ k0 ≤ T.heap.size) Φ
theorem ConW.of {y : MethodName} {maxL : Nat} {ret : Option FieldType} {ws : List Jvm.Cond} {rm : Room} {as' : Array Value} {h0 : Heap} {Q : Option Value → Heap → List Loc → Prop} (hpn : plainFor y = true)
    (body : ∀ (p : Program) (e : Env) (s : State) (m : MethodId) (below : List Frame) (meth : Method) (c : Code) (T : State) (vm0 : Vm) (k0 : Nat), Stand p l e rm (s.setVm vm0) m as' below meth c T [] 0 0 → p.tables.exec = Jvm.exec → c.code = bytes → c.maxLocals = maxL → vm0.findClass y.cls = some m.cls → meth.name = y.name → meth.sig.returnType = ret → T.heap = h0 → Z.Warmed39 vm0 → s.heap = h0 → s.Since vm0 k0 → k0 ≤ h0.size →
      ∀ Φ : State → Prop, FinW p l e rm s m as' below meth c Q Φ → GoP p e below Φ (T.setTop (entryFrame m as' maxL))) : ConW l Z y bytes maxL ret ws rm as' h0 Q := by
  refine MetFree.of_bodySF hpn hisR ?_
  intro p e s m args below meth c s₁ Bd hml0 hP hK
  obtain ⟨rfl, hZ, hh⟩ := hP
  have e0 : s₁.heap = h0 := by rw [← hh, Bd.state]; rfl
  have hlk : meth.locks = false := Bd.notSynchronized
  obtain ⟨t, h1, o, h2⟩ := body p e s m below meth c s₁ s.vm h0.size (Stand.of_body Bd) Bd.exec Bd.bytes hml0 (findClass_of_methodNamed Bd.named) (name_of_methodNamed Bd.named Bd.method).1 Bd.returns e0 hZ hh ((State.WarmedH.refl s).since _) (Nat.le_refl _)
    (fun t => ∃ o, t.status = .running ∧ Ended t below o ∧ ∃ v L, o = .returned v ∧ Q v t.heap L ∧ ReturnedEndW s o t L rm.cells rm.slots)
    (fun vm0 k0 hS T locs cells slots v X hv hQ hc hs => by
      obtain ⟨fs, hr, hrun, hended, hW, hsame⟩ := X.leave (v := v) hv hlk
      obtain ⟨r1, r2, r3⟩ := hS.ended hW hQ.2 hsame
      exact ⟨fs, hr, _, hrun, hended, v, locs, rfl, hQ.1, ⟨_, rfl⟩, r1, r2, r3.mono hc hs⟩)
  exact ⟨t, o, h1, h2⟩
theorem own_ldcS (X : Stand p l e R (s.setVm vm0) m args below meth c T locs cells slots) (hx : p.tables.exec = Jvm.exec) (hby : c.code = bytes) (hZ : Z.Warmed39 vm0) {own text : String} {i : Nat} (hown : vm0.findClass own = some m.cls) (w : (Jvm.Cond.stringLink own i text).before a0 Z = true) (wS : ∀ a ∈ Bundle.stringAtoms, a.before a0 Z = true) (eT : T.heap = h) (hS : s.Since vm0 k0) (hk : k0 ≤ h.size) (hd : decode bytes pc = .ok (.ldc i, 2)) (n : Nat) (hn : 4 * text.toList.length ≤ n) (hbig : n ≤ 536870912) (hc : cells + 2 ≤ R.cells) (hl : slots + (n + 4) ≤ R.slots) (hp : pc + 2 = pc')
    (k : ∀ (a : Addr) (T' : State) (h' : Heap) (k1 : Nat), Stand p l e R (s.setVm T'.vm) m args below meth c T' locs (cells + 2) (slots + (n + 4)) → T'.heap = h' → Ext h h' → s.Since T'.vm k1 → k1 ≤ h'.size → Z.Warmed39 T'.vm → T'.vm.findClass own = some m.cls → GoP p e below Φ (T'.setTop (mkF m pc' Ls (.ref a :: rest)))) : GoP p e below Φ (T.setTop (mkF m pc Ls (rest))) := by
  subst hp
  obtain ⟨a, T', h', k1, X', e', E', hS', hk', hZ', hown', st'⟩ := Jvm.RoadKit.ldcS X hx hZ hown w wS eT hS hk (g := mkF m pc Ls rest) rfl (hb hby hd) hn hbig hc hl
  exact own_step st' (k a T' h' k1 X' e' E' hS' hk' hZ' hown')
theorem own_callVW (X : Stand p l e R (s.setVm vm0) m args below meth c T locs cells slots) (hx : p.tables.exec = Jvm.exec) (hby : c.code = bytes) (hZ : Z.Warmed39 vm0) (hml : Ls.size = c.maxLocals) {own : String} {index : Nat} {y : MethodName} (hown : vm0.findClass own = some m.cls) {C : String} {b : Addr} (w1 : (Jvm.Cond.methodLink own index y).before a0 Z = true) (w2 : (Jvm.Cond.declares y).before a0 Z = true) (w5 : (Jvm.Cond.selects C y y).before a0 Z = true) (w6 : (Jvm.Cond.instanceMethod y).before a0 Z = true) (w3 : (Jvm.Cond.initialized y.cls).before a0 Z = true) {bytes' : ByteArray} {maxL : Nat} {ret : Option FieldType} (w4 : (Jvm.Cond.code y bytes' maxL ret).before a0 Z = true) (hy : y.cls ≠ "java/lang/invoke/MethodHandle" ∧ y.cls ≠ "java/lang/invoke/VarHandle") {rm : Room} {Q : Option Value → Heap → List Loc → Prop} (eT : T.heap = h) (W : Nat) (hf : rm.frames + 1 ≤ R.frames) (hl : W + (maxL + 11) + rm.locals ≤ R.locals) (hc : cells + rm.cells ≤ R.cells) (hs : slots + rm.slots ≤ R.slots) {argsL rest : List Value} {st : List Value} (hlen : ∀ sig, parseMethodDescriptor y.desc = some sig → argsL.length = sig.parameters.length) (hst : st = argsL.reverse ++ .ref b :: rest) (hW : (rest.map fun v => v.category).sum ≤ W) (E : Exa Z h b C) (hM : ConW l Z y bytes' maxL ret [] rm (.ref b :: argsL).toArray h Q) (hd : decode bytes pc = .ok (.invokevirtual index, 3)) (hp : pc + 3 = pc') (hS : s.Since vm0 k0) (hk : k0 ≤ h.size) (k : ∀ (v : Option Value) (T' : State) (L : List Loc), Stand p l e R (s.setVm T'.vm) m args below meth c T' (locs ++ L) (cells + rm.cells) (slots + rm.slots) → s.Since T'.vm T'.heap.size → T'.heap.size ≤ T'.heap.size → Z.Warmed39 T'.vm → T'.vm.findClass own = some m.cls → h.size ≤ T'.heap.size → Q v T'.heap L → GoP p e below Φ (T'.setTop (mkF m pc' Ls (v.toList ++ rest)))) : GoP p e below Φ (T.setTop (mkF m pc Ls st)) := by
  obtain ⟨cq, kq, qa, qb, qc⟩ := isOf (s := s.setVm vm0) hZ eT E
  obtain ⟨v, _, ⟨T', L', k', n'⟩, -, X', hS2, hg2, ⟨L, hQ, l1, y1, z1⟩, st'⟩ := X.virtualBackS hx (y := y) (z := y) hown (mvT (s := s.setVm vm0) hZ w1) (mvT (s := s.setVm vm0) hZ w2) (notFace_of_selects (args := #[]) (mvT (s := s.setVm vm0) hZ w5)) (mvT (s := s.setVm vm0) hZ w5) (mvT (s := s.setVm vm0) hZ w6) hy (backOfS (W := W) hM hZ w4 w3 hf hl) qa qc (g := mkF m pc Ls st) rfl hml (Steps.refl _) (argsL := argsL) (rest := rest) hlen hst (by show 2 * 0 + _ ≤ _; omega) (hb hby hd) (fun _ _ => ⟨rfl, eT, hc, hs⟩)
  dsimp only [Pt.U, Pt.locs, Pt.cells, Pt.slots] at X' l1 y1 z1 st' hQ hS2 hg2
  subst l1 y1 z1 hp
  obtain ⟨X'', hS3, hZ3, hown3⟩ := rebS (n1 := T.heap.size) hS (by rw [eT]; exact hk) X' hS2 hg2 hZ hown
  exact own_trans st' (k _ _ _ X'' hS3 (Nat.le_refl _) hZ3 hown3 (by rw [← eT]; exact hg2) hQ)
theorem own_callSW (X : Stand p l e R (s.setVm vm0) m args below meth c T locs cells slots) (hx : p.tables.exec = Jvm.exec) (hby : c.code = bytes) (hZ : Z.Warmed39 vm0) (hml : Ls.size = c.maxLocals) {own : String} {index : Nat} {y : MethodName} (hown : vm0.findClass own = some m.cls) (w1 : (Jvm.Cond.methodLink own index y).before a0 Z = true) (w2 : (Jvm.Cond.static y).before a0 Z = true) (w3 : (Jvm.Cond.initialized y.cls).before a0 Z = true) {bytes' : ByteArray} {maxL : Nat} {ret : Option FieldType} (w4 : (Jvm.Cond.code y bytes' maxL ret).before a0 Z = true) (hy : y.cls ≠ "java/lang/invoke/MethodHandle" ∧ y.cls ≠ "java/lang/invoke/VarHandle") {rm : Room} {Q : Option Value → Heap → List Loc → Prop} (eT : T.heap = h) (W : Nat) (hf : rm.frames + 1 ≤ R.frames) (hl : W + (maxL + 11) + rm.locals ≤ R.locals) (hc : cells + rm.cells ≤ R.cells) (hs : slots + rm.slots ≤ R.slots) {argsL rest : List Value} {st : List Value} (hlen : ∀ sig, parseMethodDescriptor y.desc = some sig → argsL.length = sig.parameters.length) (hst : st = argsL.reverse ++ rest) (hW : (rest.map fun v => v.category).sum ≤ W) (hM : ConW l Z y bytes' maxL ret [] rm argsL.toArray h Q) (hd : decode bytes pc = .ok (.invokestatic index, 3)) (hp : pc + 3 = pc') (hS : s.Since vm0 k0) (hk : k0 ≤ h.size) (k : ∀ (v : Option Value) (T' : State) (L : List Loc), Stand p l e R (s.setVm T'.vm) m args below meth c T' (locs ++ L) (cells + rm.cells) (slots + rm.slots) → s.Since T'.vm T'.heap.size → T'.heap.size ≤ T'.heap.size → Z.Warmed39 T'.vm → T'.vm.findClass own = some m.cls → h.size ≤ T'.heap.size → Q v T'.heap L → GoP p e below Φ (T'.setTop (mkF m pc' Ls (v.toList ++ rest)))) : GoP p e below Φ (T.setTop (mkF m pc Ls st)) := by
  obtain ⟨v, _, ⟨T', L', k', n'⟩, -, X', hS2, hg2, ⟨L, hQ, l1, y1, z1⟩, st'⟩ := callSS X hx (y := y) hown (mvT (s := s.setVm vm0) hZ w1) (mvT (s := s.setVm vm0) hZ w2) (mvT (s := s.setVm vm0) hZ w3) (mvT (s := s.setVm vm0) hZ w4) hy (backOfS (W := W) hM hZ w4 w3 hf hl) (g := mkF m pc Ls st) rfl hml (argsL := argsL) (rest := rest) hlen hst (by show 2 * 0 + _ ≤ _; omega) (hb hby hd) (fun _ _ => ⟨rfl, eT, hc, hs⟩)
  dsimp only [Pt.U, Pt.locs, Pt.cells, Pt.slots] at X' l1 y1 z1 st' hQ hS2 hg2
  subst l1 y1 z1 hp
  obtain ⟨X'', hS3, hZ3, hown3⟩ := rebS (n1 := T.heap.size) hS (by rw [eT]; exact hk) X' hS2 hg2 hZ hown
  exact own_trans st' (k _ _ _ X'' hS3 (Nat.le_refl _) hZ3 hown3 (by rw [← eT]; exact hg2) hQ)
end OwnKitW
section OwnKitV
variable {p : Program} {l : Launch} {e : Env} {R : Room} {s : State} {m : MethodId} {args : Array Value} {below : List Frame} {meth : Method} {c : Code} {T : State} {locs : List Loc} {cells slots : Nat} {bytes : ByteArray} {Φ : State → Prop} {pc pc' : Nat} {Ls Ls' : Array Slot} {rest : List Value} {Z : State} {a0 : Array Value} {h h' : Heap} {a b : Addr} {ty : FieldType} {vs : List Value} {v w : Value} {i : Nat}
/-- the array at a, of components ty, holds just vs -/
def AV (Z : State) (h : Heap) (a : Addr) (ty : FieldType) (vs : List Value) : Prop := ∃ cl : Cell, Arr Z h a cl ty ∧ cl.slots.toList = vs ∧ vs.length < 2 ^ 31
theorem AV.lt (F : AV Z h a ty vs) : a < h.size := by obtain ⟨cl, A, -⟩ := F; exact A.lt
theorem AV.ext (F : AV Z h a ty vs) (E : Ext h h') : AV Z h' a ty vs := by obtain ⟨cl, A, r⟩ := F; exact ⟨cl, A.ext E, r⟩
theorem AV.other (F : AV Z h b ty vs) (W : Wr h h' a i v) (q : b ≠ a) : AV Z h' b ty vs := by obtain ⟨cl, A, r⟩ := F; exact ⟨cl, A.other W q, r⟩
theorem AV.keep {ws : List Addr} (F : AV Z h a ty vs) (K : Keep h h' ws) (q : a ∉ ws) : AV Z h' a ty vs := by obtain ⟨cl, A, r⟩ := F; exact ⟨cl, ⟨K.2.1 a cl A.1 q, A.2⟩, r⟩
theorem AV.same (F : AV Z h a ty vs) (W : Wr h h' a i v) : AV Z h' a ty (vs.set i v) := by
  obtain ⟨cl, A, r1, r2⟩ := F
  exact ⟨_, A.same W, by rw [← r1]; simp [Cell.setSlot], by rw [List.length_set]; exact r2⟩
theorem AV.plain (F : AV Z h a ty vs) : ∀ c : Cell, h[a]? = some c → c.vm.isStatics = false := fun c hc => by
  obtain ⟨cl, A, -⟩ := F
  cases hc.symm.trans A.1; exact A.plain
theorem AV.new {k : ClassId} {n : Int32} (A : Arr Z h a (newA k ty n) ty) (q : ¬ n < 0) : AV Z h a ty (List.replicate n.toNatClampNeg (defaultValue ty)) :=
  ⟨_, A, by simp [newA], by rw [List.length_replicate]; exact (back32 q).2⟩
theorem own_inb {cl : Cell} {j : Int32} (r : cl.slots.toList = vs) (h0 : ¬ j < 0) (hl : j.toNatClampNeg < vs.length) : ¬ (j < 0 ∨ cl.slots.size ≤ j.toNatClampNeg) := fun q => q.elim h0 fun y => by
  rw [← r, Array.length_toList] at hl; omega
theorem own_get {cl : Cell} {j : Nat} (r : cl.slots.toList = vs) (hv : vs[j]? = some v) : cl.slots[j]? = some v := by rw [← Array.getElem?_toList, r]; exact hv
theorem own_lt {j : Nat} (hv : vs[j]? = some v) : j < vs.length := (List.getElem?_eq_some_iff.mp hv).1
theorem own_iaload (X : Stand p l e R s m args below meth c T locs cells slots) (hx : p.tables.exec = Jvm.exec) (hby : c.code = bytes) (hZ : Z.Warmed39 s.vm) (eT : T.heap = h) {j : Int32} (F : AV Z h a .int vs) (h0 : ¬ j < 0) (hv : vs[j.toNatClampNeg]? = some v) (hd : decode bytes pc = .ok (.iaload, 1)) (hp : pc + 1 = pc') (k : GoP p e below Φ (T.setTop (mkF m pc' Ls (v :: rest)))) : GoP p e below Φ (T.setTop (mkF m pc Ls (.int j :: .ref a :: rest))) := by
  subst hp
  obtain ⟨cl, A, r1, r2⟩ := F
  exact own_step (fun t u => X.iaload hx (j := j) (v := v) (by rw [eT]; exact A.1) (State.isArrayOf_alike hZ.alike A.2.1) A.2.2 (own_inb r1 h0 (own_lt hv)) (own_get r1 hv) (g := mkF m pc Ls (.int j :: .ref a :: rest)) rfl rfl (hb hby hd) t u) k
theorem own_laload (X : Stand p l e R s m args below meth c T locs cells slots) (hx : p.tables.exec = Jvm.exec) (hby : c.code = bytes) (hZ : Z.Warmed39 s.vm) (eT : T.heap = h) {j : Int32} (F : AV Z h a .long vs) (h0 : ¬ j < 0) (hv : vs[j.toNatClampNeg]? = some v) (hd : decode bytes pc = .ok (.laload, 1)) (hp : pc + 1 = pc') (k : GoP p e below Φ (T.setTop (mkF m pc' Ls (v :: rest)))) : GoP p e below Φ (T.setTop (mkF m pc Ls (.int j :: .ref a :: rest))) := by
  subst hp
  obtain ⟨cl, A, r1, r2⟩ := F
  exact own_step (fun t u => X.laload hx (j := j) (v := v) (by rw [eT]; exact A.1) (State.isArrayOf_alike hZ.alike A.2.1) A.2.2 (own_inb r1 h0 (own_lt hv)) (own_get r1 hv) (g := mkF m pc Ls (.int j :: .ref a :: rest)) rfl rfl (hb hby hd) t u) k
theorem own_caload (X : Stand p l e R s m args below meth c T locs cells slots) (hx : p.tables.exec = Jvm.exec) (hby : c.code = bytes) (hZ : Z.Warmed39 s.vm) (eT : T.heap = h) {j : Int32} (F : AV Z h a .char vs) (h0 : ¬ j < 0) (hv : vs[j.toNatClampNeg]? = some v) (hd : decode bytes pc = .ok (.caload, 1)) (hp : pc + 1 = pc') (k : GoP p e below Φ (T.setTop (mkF m pc' Ls (v :: rest)))) : GoP p e below Φ (T.setTop (mkF m pc Ls (.int j :: .ref a :: rest))) := by
  subst hp
  obtain ⟨cl, A, r1, r2⟩ := F
  exact own_step (fun t u => X.caload hx (j := j) (v := v) (by rw [eT]; exact A.1) (State.isArrayOf_alike hZ.alike A.2.1) A.2.2 (own_inb r1 h0 (own_lt hv)) (own_get r1 hv) (g := mkF m pc Ls (.int j :: .ref a :: rest)) rfl rfl (hb hby hd) t u) k
theorem own_baload (X : Stand p l e R s m args below meth c T locs cells slots) (hx : p.tables.exec = Jvm.exec) (hby : c.code = bytes) (hZ : Z.Warmed39 s.vm) (eT : T.heap = h) {j : Int32} (F : AV Z h a .byte vs) (h0 : ¬ j < 0) (hv : vs[j.toNatClampNeg]? = some v) (hd : decode bytes pc = .ok (.baload, 1)) (hp : pc + 1 = pc') (k : GoP p e below Φ (T.setTop (mkF m pc' Ls (v :: rest)))) : GoP p e below Φ (T.setTop (mkF m pc Ls (.int j :: .ref a :: rest))) := by
  subst hp
  obtain ⟨cl, A, r1, r2⟩ := F
  exact own_step (fun t u => X.baloadBytes hx (j := j) (v := v) (by rw [eT]; exact A.1) (State.isArrayOf_alike hZ.alike A.2.1) A.2.2 (own_inb r1 h0 (own_lt hv)) (own_get r1 hv) (g := mkF m pc Ls (.int j :: .ref a :: rest)) rfl rfl (hb hby hd) t u) k
theorem own_aaload (X : Stand p l e R s m args below meth c T locs cells slots) (hx : p.tables.exec = Jvm.exec) (hby : c.code = bytes) (hZ : Z.Warmed39 s.vm) (eT : T.heap = h) {j : Int32} (F : AV Z h a ty vs) (hr : ty.isReference = true) (h0 : ¬ j < 0) (hv : vs[j.toNatClampNeg]? = some v) (hd : decode bytes pc = .ok (.aaload, 1)) (hp : pc + 1 = pc') (k : GoP p e below Φ (T.setTop (mkF m pc' Ls (v :: rest)))) : GoP p e below Φ (T.setTop (mkF m pc Ls (.int j :: .ref a :: rest))) := by
  subst hp
  obtain ⟨cl, A, r1, r2⟩ := F
  exact own_step (fun t u => X.aaload hx (j := j) (v := v) (by rw [eT]; exact A.1) (State.isArrayOf_alike hZ.alike A.2.1) hr A.2.2 (own_inb r1 h0 (own_lt hv)) (own_get r1 hv) (g := mkF m pc Ls (.int j :: .ref a :: rest)) rfl rfl (hb hby hd) t u) k
theorem own_alen (X : Stand p l e R s m args below meth c T locs cells slots) (hx : p.tables.exec = Jvm.exec) (hby : c.code = bytes) (hZ : Z.Warmed39 s.vm) (eT : T.heap = h) {n : Int32} (F : AV Z h a ty vs) (hn : Int32.ofNat vs.length = n) (hd : decode bytes pc = .ok (.arraylength, 1)) (hp : pc + 1 = pc') (k : GoP p e below Φ (T.setTop (mkF m pc' Ls (.int n :: rest)))) : GoP p e below Φ (T.setTop (mkF m pc Ls (.ref a :: rest))) := by
  subst hp
  obtain ⟨cl, A, r1, r2⟩ := F
  have q : cl.slots.size.toInt32 = n := by rw [← hn, ← r1, Array.length_toList]
  rw [← q] at k
  exact own_step (fun t u => X.arraylength hx (by rw [eT]; exact A.1) (State.isArrayOf_alike hZ.alike A.2.1) (g := mkF m pc Ls (.ref a :: rest)) rfl rfl (hb hby hd) t u) k
theorem own_iastore (X : Stand p l e R s m args below meth c T locs cells slots) (hx : p.tables.exec = Jvm.exec) (hby : c.code = bytes) (hZ : Z.Warmed39 s.vm) (eT : T.heap = h) {j : Int32} {x : Int32} (F : AV Z h a .int vs) (h0 : ¬ j < 0) (hl : j.toNatClampNeg < vs.length) (hd : decode bytes pc = .ok (.iastore, 1)) (hp : pc + 1 = pc') (k : ∀ (T' : State) (h' : Heap), Stand p l e R s m args below meth c T' (locs ++ [⟨a, j.toNatClampNeg⟩]) cells slots → T'.heap = h' → Wr h h' a j.toNatClampNeg (.int x) → AV Z h' a .int (vs.set j.toNatClampNeg (.int x)) → GoP p e below Φ (T'.setTop (mkF m pc' Ls rest))) : GoP p e below Φ (T.setTop (mkF m pc Ls ((.int x) :: .int j :: .ref a :: rest))) := by
  subst hp
  obtain ⟨cl, A, r1, r2⟩ := F
  obtain ⟨T', h', X', e', W', st'⟩ := stI X hx hZ eT A (j := j) (x := x) (own_inb r1 h0 hl) (g := mkF m pc Ls ((.int x) :: .int j :: .ref a :: rest)) rfl rfl (hb hby hd)
  exact own_step st' (k T' h' X' e' W' (AV.same ⟨cl, A, r1, r2⟩ W'))
theorem own_lastore (X : Stand p l e R s m args below meth c T locs cells slots) (hx : p.tables.exec = Jvm.exec) (hby : c.code = bytes) (hZ : Z.Warmed39 s.vm) (eT : T.heap = h) {j : Int32} {x : Int64} (F : AV Z h a .long vs) (h0 : ¬ j < 0) (hl : j.toNatClampNeg < vs.length) (hd : decode bytes pc = .ok (.lastore, 1)) (hp : pc + 1 = pc') (k : ∀ (T' : State) (h' : Heap), Stand p l e R s m args below meth c T' (locs ++ [⟨a, j.toNatClampNeg⟩]) cells slots → T'.heap = h' → Wr h h' a j.toNatClampNeg (.long x) → AV Z h' a .long (vs.set j.toNatClampNeg (.long x)) → GoP p e below Φ (T'.setTop (mkF m pc' Ls rest))) : GoP p e below Φ (T.setTop (mkF m pc Ls ((.long x) :: .int j :: .ref a :: rest))) := by
  subst hp
  obtain ⟨cl, A, r1, r2⟩ := F
  obtain ⟨T', h', X', e', W', st'⟩ := stJ X hx hZ eT A (j := j) (x := x) (own_inb r1 h0 hl) (g := mkF m pc Ls ((.long x) :: .int j :: .ref a :: rest)) rfl rfl (hb hby hd)
  exact own_step st' (k T' h' X' e' W' (AV.same ⟨cl, A, r1, r2⟩ W'))
theorem own_bastoreZ (X : Stand p l e R s m args below meth c T locs cells slots) (hx : p.tables.exec = Jvm.exec) (hby : c.code = bytes) (hZ : Z.Warmed39 s.vm) (eT : T.heap = h) {j x : Int32} (F : AV Z h a .boolean vs) (h0 : ¬ j < 0) (hl : j.toNatClampNeg < vs.length) (hd : decode bytes pc = .ok (.bastore, 1)) (hp : pc + 1 = pc') (k : ∀ (T' : State) (h' : Heap), Stand p l e R s m args below meth c T' (locs ++ [⟨a, j.toNatClampNeg⟩]) cells slots → T'.heap = h' → Wr h h' a j.toNatClampNeg (.int (nar .boolean x)) → AV Z h' a .boolean (vs.set j.toNatClampNeg (.int (nar .boolean x))) → GoP p e below Φ (T'.setTop (mkF m pc' Ls rest))) : GoP p e below Φ (T.setTop (mkF m pc Ls (.int x :: .int j :: .ref a :: rest))) := by
  subst hp
  obtain ⟨cl, A, r1, r2⟩ := F
  obtain ⟨T', h', X', e', W', st'⟩ := stZ X hx hZ eT A (j := j) (x := x) (own_inb r1 h0 hl) (g := mkF m pc Ls (.int x :: .int j :: .ref a :: rest)) rfl rfl (hb hby hd)
  exact own_step st' (k T' h' X' e' W' (AV.same ⟨cl, A, r1, r2⟩ W'))
theorem own_bastoreB (X : Stand p l e R s m args below meth c T locs cells slots) (hx : p.tables.exec = Jvm.exec) (hby : c.code = bytes) (hZ : Z.Warmed39 s.vm) (eT : T.heap = h) {j x : Int32} (F : AV Z h a .byte vs) (h0 : ¬ j < 0) (hl : j.toNatClampNeg < vs.length) (hd : decode bytes pc = .ok (.bastore, 1)) (hp : pc + 1 = pc') (k : ∀ (T' : State) (h' : Heap), Stand p l e R s m args below meth c T' (locs ++ [⟨a, j.toNatClampNeg⟩]) cells slots → T'.heap = h' → Wr h h' a j.toNatClampNeg (.int (nar .byte x)) → AV Z h' a .byte (vs.set j.toNatClampNeg (.int (nar .byte x))) → GoP p e below Φ (T'.setTop (mkF m pc' Ls rest))) : GoP p e below Φ (T.setTop (mkF m pc Ls (.int x :: .int j :: .ref a :: rest))) := by
  subst hp
  obtain ⟨cl, A, r1, r2⟩ := F
  obtain ⟨T', h', X', e', W', st'⟩ := stB X hx hZ eT A (j := j) (x := x) (own_inb r1 h0 hl) (g := mkF m pc Ls (.int x :: .int j :: .ref a :: rest)) rfl rfl (hb hby hd)
  exact own_step st' (k T' h' X' e' W' (AV.same ⟨cl, A, r1, r2⟩ W'))
theorem own_castore (X : Stand p l e R s m args below meth c T locs cells slots) (hx : p.tables.exec = Jvm.exec) (hby : c.code = bytes) (hZ : Z.Warmed39 s.vm) (eT : T.heap = h) {j x : Int32} (F : AV Z h a .char vs) (h0 : ¬ j < 0) (hl : j.toNatClampNeg < vs.length) (hd : decode bytes pc = .ok (.castore, 1)) (hp : pc + 1 = pc') (k : ∀ (T' : State) (h' : Heap), Stand p l e R s m args below meth c T' (locs ++ [⟨a, j.toNatClampNeg⟩]) cells slots → T'.heap = h' → Wr h h' a j.toNatClampNeg (.int (nar .char x)) → AV Z h' a .char (vs.set j.toNatClampNeg (.int (nar .char x))) → GoP p e below Φ (T'.setTop (mkF m pc' Ls rest))) : GoP p e below Φ (T.setTop (mkF m pc Ls (.int x :: .int j :: .ref a :: rest))) := by
  subst hp
  obtain ⟨cl, A, r1, r2⟩ := F
  obtain ⟨T', h', X', e', W', st'⟩ := stC X hx hZ eT A (j := j) (x := x) (own_inb r1 h0 hl) (g := mkF m pc Ls (.int x :: .int j :: .ref a :: rest)) rfl rfl (hb hby hd)
  exact own_step st' (k T' h' X' e' W' (AV.same ⟨cl, A, r1, r2⟩ W'))
theorem own_newarray (X : Stand p l e R s m args below meth c T locs cells slots) (hx : p.tables.exec = Jvm.exec) (hby : c.code = bytes) (hZ : Z.Warmed39 s.vm) {aty : ArrayType} (w1 : (Jvm.Cond.arrayClass (newarray.typeOf aty)).before a0 Z = true) (eT : T.heap = h) {n : Int32} (hn : ¬ n < 0) (cap : Nat) (hcap : n.toNatClampNeg ≤ cap) (hbb : cap * 8 ≤ 536870912) (hc : cells + 1 ≤ R.cells) (hl : slots + cap ≤ R.slots) (hd : decode bytes pc = .ok (.newarray aty, 2)) (hp : pc + 2 = pc')
    (k : ∀ (T' : State) (h' : Heap) (b : Addr), Stand p l e R s m args below meth c T' locs (cells + 1) (slots + cap) → T'.heap = h' → Ext h h' → b = h.size → AV Z h' b (newarray.typeOf aty) (List.replicate n.toNatClampNeg (defaultValue (newarray.typeOf aty))) → GoP p e below Φ (T'.setTop (mkF m pc' Ls (.ref b :: rest)))) : GoP p e below Φ (T.setTop (mkF m pc Ls (.int n :: rest))) := by
  subst hp
  obtain ⟨T', h', cA, X', e', E', A', st'⟩ := newP X hx hZ w1 eT (g := mkF m pc Ls (.int n :: rest)) rfl (hb hby hd) rfl hn hcap hbb hc hl
  exact own_step st' (k T' h' _ X' e' E' rfl (AV.new A' hn))
theorem AV.of {k : ClassId} {n : Int32} {d : Value} (F : Arv Z h a k ty n vs d) (q : vs.length = n.toNatClampNeg) : AV Z h a ty vs := by
  obtain ⟨cl, A, -, S, N, H, G⟩ := F
  refine ⟨cl, A, List.ext_getElem? fun i => ?_, by rw [q]; exact (back32 N).2⟩
  rw [Array.getElem?_toList]
  by_cases hi : i < cl.slots.size
  · rw [H i hi, List.getElem?_eq_getElem (by rw [q, ← S]; exact hi), List.getD_eq_getElem?_getD, List.getElem?_eq_getElem (by rw [q, ← S]; exact hi)]; rfl
  · rw [Array.getElem?_eq_none (Nat.le_of_not_lt hi), List.getElem?_eq_none (by rw [q, ← S]; exact Nat.le_of_not_lt hi)]
end OwnKitV
section OwnKitX
variable {p : Program} {l : Launch} {e : Env} {R : Room} {s : State} {vm0 : Vm} {m : MethodId} {args : Array Value} {below : List Frame} {meth : Method} {c : Code} {T : State} {locs : List Loc} {cells slots : Nat} {bytes : ByteArray} {Φ : State → Prop} {pc pc' : Nat} {Ls Ls' : Array Slot} {rest : List Value} {Z : State} {a0 : Array Value} {h : Heap} {k0 : Nat}
def ConX (l : Launch) (Z : State) (y : MethodName) (bytes : ByteArray) (maxL : Nat) (ret : Option FieldType) (ws : List Jvm.Cond) (rm : Room) (as' : Array Value) (h0 : Heap) (Pv : Vm → Prop) (Q : Option Value → Heap → Vm → List Loc → Prop) : Prop :=
  MetFree l y (head1 (Jvm.Cond.code y bytes maxL ret :: ws) rm) (fun a U => a = as' ∧ Z.Warmed39 U.vm ∧ U.heap = h0 ∧ Pv U.vm) (fun _ _ _ _ _ => True) (fun _ U o U' => ∃ v L, o = .returned v ∧ Q v U'.heap U'.vm L ∧ ReturnedEndW U o U' L rm.cells rm.slots)
def FinX (p : Program) (l : Launch) (e : Env) (R : Room) (s : State) (m : MethodId) (args : Array Value) (below : List Frame) (meth : Method) (c : Code) (Q : Option Value → Heap → Vm → List Loc → Prop) (Φ : State → Prop) : Prop :=
  ∀ (vm0 : Vm) (k0 : Nat), s.Since vm0 k0 → Fin p l e R (s.setVm vm0) m args below meth c (fun v T L => Q v T.heap T.vm L ∧ k0 ≤ T.heap.size) Φ
theorem ConX.of {y : MethodName} {maxL : Nat} {ret : Option FieldType} {ws : List Jvm.Cond} {rm : Room} {as' : Array Value} {h0 : Heap} {Pv : Vm → Prop} {Q : Option Value → Heap → Vm → List Loc → Prop} (hpn : plainFor y = true)
    (body : ∀ (p : Program) (e : Env) (s : State) (m : MethodId) (below : List Frame) (meth : Method) (c : Code) (T : State) (vm0 : Vm) (k0 : Nat), Stand p l e rm (s.setVm vm0) m as' below meth c T [] 0 0 → p.tables.exec = Jvm.exec → c.code = bytes → c.maxLocals = maxL → vm0.findClass y.cls = some m.cls → meth.name = y.name → meth.sig.returnType = ret → T.heap = h0 → Z.Warmed39 vm0 → s.heap = h0 → s.Since vm0 k0 → k0 ≤ h0.size → Pv vm0 →
      ∀ Φ : State → Prop, FinX p l e rm s m as' below meth c Q Φ → GoP p e below Φ (T.setTop (entryFrame m as' maxL))) : ConX l Z y bytes maxL ret ws rm as' h0 Pv Q := by
  refine MetFree.of_bodySF hpn hisR ?_
  intro p e s m args below meth c s₁ Bd hml0 hP hK
  obtain ⟨rfl, hZ, hh, hv⟩ := hP
  have e0 : s₁.heap = h0 := by rw [← hh, Bd.state]; rfl
  have hlk : meth.locks = false := Bd.notSynchronized
  obtain ⟨t, h1, o, h2⟩ := body p e s m below meth c s₁ s.vm h0.size (Stand.of_body Bd) Bd.exec Bd.bytes hml0 (findClass_of_methodNamed Bd.named) (name_of_methodNamed Bd.named Bd.method).1 Bd.returns e0 hZ hh ((State.WarmedH.refl s).since _) (Nat.le_refl _) hv
    (fun t => ∃ o, t.status = .running ∧ Ended t below o ∧ ∃ v L, o = .returned v ∧ Q v t.heap t.vm L ∧ ReturnedEndW s o t L rm.cells rm.slots)
    (fun vm0 k0 hS T locs cells slots v X hv hQ hc hs => by
      obtain ⟨fs, hr, hrun, hended, hW, hsame⟩ := X.leave (v := v) hv hlk
      obtain ⟨r1, r2, r3⟩ := hS.ended hW hQ.2 hsame
      exact ⟨fs, hr, _, hrun, hended, v, locs, rfl, hQ.1, ⟨_, rfl⟩, r1, r2, r3.mono hc hs⟩)
  exact ⟨t, o, h1, h2⟩
theorem own_backX {y : MethodName} {maxL : Nat} {ret : Option FieldType} {rm : Room} {len W : Nat} {as' : Array Value} {Pv : Vm → Prop} {Q : Option Value → Heap → Vm → List Loc → Prop}
    (hM : ConX l Z y bytes maxL ret [] rm as' h Pv Q) (hZ : Z.Warmed39 s.vm) (wc : (Jvm.Cond.code y bytes maxL ret).before a0 Z = true) (wz : (Jvm.Cond.initialized y.cls).before a0 Z = true) (hf : rm.frames + 1 ≤ R.frames) (hl : W + (maxL + 11) + rm.locals ≤ R.locals) :
    BackS l R p e below s args y len W (fun A a => a = as' ∧ A.U.heap = h ∧ A.cells + rm.cells ≤ R.cells ∧ A.slots + rm.slots ≤ R.slots ∧ Pv A.U.vm)
      (fun A _ v B => ∃ L, Q v B.U.heap B.U.vm L ∧ B.locs = A.locs ++ L ∧ B.cells = A.cells + rm.cells ∧ B.slots = A.slots + rm.slots) :=
  BackS.of_freeW (bytes := bytes) (maxL := maxL) (ret := ret) (E := fun _ _ o t L k n => k = rm.cells ∧ n = rm.slots ∧ ∃ v, o = .returned v ∧ Q v t.heap t.vm L) hM hf hl
    (fun m meth c A a Y hp => have hU : Z.Warmed39 A.U.vm := wtrans hZ Y.warmed
      ⟨by show (Jvm.Cond.and _ .tt).before a A.U = true; rw [Cond.before_and, mv hU wc]; rfl, mv hU wc, mv hU wz, hp.2.2.1, hp.2.2.2.1⟩)
    (fun m meth c A a g mk Y hp => ⟨hp.1, wtrans hZ Y.warmed, hp.2.1, hp.2.2.2.2⟩) (fun _ _ _ _ _ _ _ _ _ => trivial)
    (fun _ _ _ _ ⟨v, L, h1, h2, h3⟩ => ⟨L, _, _, h3, rfl, rfl, v, h1, h2⟩)
    (fun m meth c A a g mk v t L k n Y hp _ _ ⟨e1, e2, v', e3, e4⟩ => by cases e3; subst e1 e2; exact ⟨L, e4, rfl, rfl, rfl⟩)
/-- a word on the tables that stays where they warm -/
def Stays (Pv : Vm → Prop) : Prop := ∀ (s : State) (vm0 vm1 : Vm), (s.setVm vm0).WarmedH vm1 → Pv vm0 → Pv vm1
theorem own_callVX (X : Stand p l e R (s.setVm vm0) m args below meth c T locs cells slots) (hx : p.tables.exec = Jvm.exec) (hby : c.code = bytes) (hZ : Z.Warmed39 vm0) (hml : Ls.size = c.maxLocals) {own : String} {index : Nat} {y : MethodName} (hown : vm0.findClass own = some m.cls) {C : String} {b : Addr} (w1 : (Jvm.Cond.methodLink own index y).before a0 Z = true) (w2 : (Jvm.Cond.declares y).before a0 Z = true) (w5 : (Jvm.Cond.selects C y y).before a0 Z = true) (w6 : (Jvm.Cond.instanceMethod y).before a0 Z = true) (w3 : (Jvm.Cond.initialized y.cls).before a0 Z = true) {bytes' : ByteArray} {maxL : Nat} {ret : Option FieldType} (w4 : (Jvm.Cond.code y bytes' maxL ret).before a0 Z = true) (hy : y.cls ≠ "java/lang/invoke/MethodHandle" ∧ y.cls ≠ "java/lang/invoke/VarHandle") {rm : Room} {Pv : Vm → Prop} {Q : Option Value → Heap → Vm → List Loc → Prop} (eT : T.heap = h) (W : Nat) (hf : rm.frames + 1 ≤ R.frames) (hl : W + (maxL + 11) + rm.locals ≤ R.locals) (hc : cells + rm.cells ≤ R.cells) (hs : slots + rm.slots ≤ R.slots) {argsL rest : List Value} {st : List Value} (hlen : ∀ sig, parseMethodDescriptor y.desc = some sig → argsL.length = sig.parameters.length) (hst : st = argsL.reverse ++ .ref b :: rest) (hW : (rest.map fun v => v.category).sum ≤ W) (E : Exa Z h b C) (hM : ConX l Z y bytes' maxL ret [] rm (.ref b :: argsL).toArray h Pv Q) (hd : decode bytes pc = .ok (.invokevirtual index, 3)) (hp : pc + 3 = pc') (hS : s.Since vm0 k0) (hk : k0 ≤ h.size) (hPs : Stays Pv) (hP : Pv vm0) (k : ∀ (v : Option Value) (T' : State) (L : List Loc), Stand p l e R (s.setVm T'.vm) m args below meth c T' (locs ++ L) (cells + rm.cells) (slots + rm.slots) → s.Since T'.vm T'.heap.size → T'.heap.size ≤ T'.heap.size → Z.Warmed39 T'.vm → T'.vm.findClass own = some m.cls → h.size ≤ T'.heap.size → Q v T'.heap T'.vm L → GoP p e below Φ (T'.setTop (mkF m pc' Ls (v.toList ++ rest)))) : GoP p e below Φ (T.setTop (mkF m pc Ls st)) := by
  obtain ⟨cq, kq, qa, qb, qc⟩ := isOf (s := s.setVm vm0) hZ eT E
  obtain ⟨v, _, ⟨T', L', k', n'⟩, -, X', hS2, hg2, ⟨L, hQ, l1, y1, z1⟩, st'⟩ := X.virtualBackS hx (y := y) (z := y) hown (mvT (s := s.setVm vm0) hZ w1) (mvT (s := s.setVm vm0) hZ w2) (notFace_of_selects (args := #[]) (mvT (s := s.setVm vm0) hZ w5)) (mvT (s := s.setVm vm0) hZ w5) (mvT (s := s.setVm vm0) hZ w6) hy (own_backX (W := W) hM hZ w4 w3 hf hl) qa qc (g := mkF m pc Ls st) rfl hml (Steps.refl _) (argsL := argsL) (rest := rest) hlen hst (by show 2 * 0 + _ ≤ _; omega) (hb hby hd) (fun vm1 hv1 => ⟨rfl, eT, hc, hs, hPs s vm0 vm1 hv1 hP⟩)
  dsimp only [Pt.U, Pt.locs, Pt.cells, Pt.slots] at X' l1 y1 z1 st' hQ hS2 hg2
  subst l1 y1 z1 hp
  obtain ⟨X'', hS3, hZ3, hown3⟩ := rebS (n1 := T.heap.size) hS (by rw [eT]; exact hk) X' hS2 hg2 hZ hown
  exact own_trans st' (k _ _ _ X'' hS3 (Nat.le_refl _) hZ3 hown3 (by rw [← eT]; exact hg2) hQ)
theorem own_callSX (X : Stand p l e R (s.setVm vm0) m args below meth c T locs cells slots) (hx : p.tables.exec = Jvm.exec) (hby : c.code = bytes) (hZ : Z.Warmed39 vm0) (hml : Ls.size = c.maxLocals) {own : String} {index : Nat} {y : MethodName} (hown : vm0.findClass own = some m.cls) (w1 : (Jvm.Cond.methodLink own index y).before a0 Z = true) (w2 : (Jvm.Cond.static y).before a0 Z = true) (w3 : (Jvm.Cond.initialized y.cls).before a0 Z = true) {bytes' : ByteArray} {maxL : Nat} {ret : Option FieldType} (w4 : (Jvm.Cond.code y bytes' maxL ret).before a0 Z = true) (hy : y.cls ≠ "java/lang/invoke/MethodHandle" ∧ y.cls ≠ "java/lang/invoke/VarHandle") {rm : Room} {Pv : Vm → Prop} {Q : Option Value → Heap → Vm → List Loc → Prop} (eT : T.heap = h) (W : Nat) (hf : rm.frames + 1 ≤ R.frames) (hl : W + (maxL + 11) + rm.locals ≤ R.locals) (hc : cells + rm.cells ≤ R.cells) (hs : slots + rm.slots ≤ R.slots) {argsL rest : List Value} {st : List Value} (hlen : ∀ sig, parseMethodDescriptor y.desc = some sig → argsL.length = sig.parameters.length) (hst : st = argsL.reverse ++ rest) (hW : (rest.map fun v => v.category).sum ≤ W) (hM : ConX l Z y bytes' maxL ret [] rm argsL.toArray h Pv Q) (hd : decode bytes pc = .ok (.invokestatic index, 3)) (hp : pc + 3 = pc') (hS : s.Since vm0 k0) (hk : k0 ≤ h.size) (hPs : Stays Pv) (hP : Pv vm0) (k : ∀ (v : Option Value) (T' : State) (L : List Loc), Stand p l e R (s.setVm T'.vm) m args below meth c T' (locs ++ L) (cells + rm.cells) (slots + rm.slots) → s.Since T'.vm T'.heap.size → T'.heap.size ≤ T'.heap.size → Z.Warmed39 T'.vm → T'.vm.findClass own = some m.cls → h.size ≤ T'.heap.size → Q v T'.heap T'.vm L → GoP p e below Φ (T'.setTop (mkF m pc' Ls (v.toList ++ rest)))) : GoP p e below Φ (T.setTop (mkF m pc Ls st)) := by
  obtain ⟨v, _, ⟨T', L', k', n'⟩, -, X', hS2, hg2, ⟨L, hQ, l1, y1, z1⟩, st'⟩ := callSS X hx (y := y) hown (mvT (s := s.setVm vm0) hZ w1) (mvT (s := s.setVm vm0) hZ w2) (mvT (s := s.setVm vm0) hZ w3) (mvT (s := s.setVm vm0) hZ w4) hy (own_backX (W := W) hM hZ w4 w3 hf hl) (g := mkF m pc Ls st) rfl hml (argsL := argsL) (rest := rest) hlen hst (by show 2 * 0 + _ ≤ _; omega) (hb hby hd) (fun vm1 hv1 => ⟨rfl, eT, hc, hs, hPs s vm0 vm1 hv1 hP⟩)
  dsimp only [Pt.U, Pt.locs, Pt.cells, Pt.slots] at X' l1 y1 z1 st' hQ hS2 hg2
  subst l1 y1 z1 hp
  obtain ⟨X'', hS3, hZ3, hown3⟩ := rebS (n1 := T.heap.size) hS (by rw [eT]; exact hk) X' hS2 hg2 hZ hown
  exact own_trans st' (k _ _ _ X'' hS3 (Nat.le_refl _) hZ3 hown3 (by rw [← eT]; exact hg2) hQ)
theorem own_callIX (X : Stand p l e R (s.setVm vm0) m args below meth c T locs cells slots) (hx : p.tables.exec = Jvm.exec) (hby : c.code = bytes) (hZ : Z.Warmed39 vm0) (hml : Ls.size = c.maxLocals) {own : String} {index : Nat} {y : MethodName} (hown : vm0.findClass own = some m.cls) {a : Addr} (hn : y.name = "<init>") (w1 : (Jvm.Cond.methodLink own index y).before a0 Z = true) (w2 : (Jvm.Cond.instanceMethod y).before a0 Z = true) (w3 : (Jvm.Cond.initialized y.cls).before a0 Z = true) {bytes' : ByteArray} {maxL : Nat} (w4 : (Jvm.Cond.code y bytes' maxL none).before a0 Z = true) (hy : y.cls ≠ "java/lang/invoke/MethodHandle" ∧ y.cls ≠ "java/lang/invoke/VarHandle") {rm : Room} {Pv : Vm → Prop} {Q : Option Value → Heap → Vm → List Loc → Prop} (eT : T.heap = h) (W : Nat) (hf : rm.frames + 1 ≤ R.frames) (hl : W + (maxL + 11) + rm.locals ≤ R.locals) (hc : cells + rm.cells ≤ R.cells) (hs : slots + rm.slots ≤ R.slots) {argsL rest : List Value} {st : List Value} (hlen : ∀ sig, parseMethodDescriptor y.desc = some sig → argsL.length = sig.parameters.length) (hst : st = argsL.reverse ++ .ref a :: rest) (hW : (rest.map fun v => v.category).sum ≤ W) (hM : ConX l Z y bytes' maxL none [] rm (.ref a :: argsL).toArray h Pv Q) (hd : decode bytes pc = .ok (.invokespecial index, 3)) (hp : pc + 3 = pc') (hS : s.Since vm0 k0) (hk : k0 ≤ h.size) (hPs : Stays Pv) (hP : Pv vm0) (k : ∀ (v : Option Value) (T' : State) (L : List Loc), Stand p l e R (s.setVm T'.vm) m args below meth c T' (locs ++ L) (cells + rm.cells) (slots + rm.slots) → s.Since T'.vm T'.heap.size → T'.heap.size ≤ T'.heap.size → Z.Warmed39 T'.vm → T'.vm.findClass own = some m.cls → h.size ≤ T'.heap.size → Q v T'.heap T'.vm L → GoP p e below Φ (T'.setTop (mkF m pc' Ls (v.toList ++ rest)))) : GoP p e below Φ (T.setTop (mkF m pc Ls st)) := by
  obtain ⟨v, _, ⟨T', L', k', n'⟩, -, X', hS2, hg2, ⟨L, hQ, l1, y1, z1⟩, st'⟩ := X.specialBackS hx (y := y) hn hown (mvT (s := s.setVm vm0) hZ w1) (mvT (s := s.setVm vm0) hZ w2) (mvT (s := s.setVm vm0) hZ w4) hy (own_backX (W := W) hM hZ w4 w3 hf hl) (g := mkF m pc Ls st) rfl hml (Steps.refl _) (a := a) (argsL := argsL) (rest := rest) hlen hst (by show 2 * 0 + _ ≤ _; omega) (hb hby hd) (fun vm1 hv1 => ⟨rfl, eT, hc, hs, hPs s vm0 vm1 hv1 hP⟩)
  dsimp only [Pt.U, Pt.locs, Pt.cells, Pt.slots] at X' l1 y1 z1 st' hQ hS2 hg2
  subst l1 y1 z1 hp
  obtain ⟨X'', hS3, hZ3, hown3⟩ := rebS (n1 := T.heap.size) hS (by rw [eT]; exact hk) X' hS2 hg2 hZ hown
  exact own_trans st' (k _ _ _ X'' hS3 (Nat.le_refl _) hZ3 hown3 (by rw [← eT]; exact hg2) hQ)
/-- the String constant at own's entry i is booked at a, with these bytes -/
def LitL (Z : State) (own : String) (i : Nat) (bs : List Value) (h : Heap) (vm : Vm) : Prop := ∃ a b : Addr, Lit (Z.setVm vm) own i a ∧ Exa Z h a "java/lang/String" ∧ Fld Z h a "java/lang/String" "coder" "B" (.int 0) ∧ Fld Z h a "java/lang/String" "value" "[B" (.ref b) ∧ AV Z h b .byte bs
/-- .. or this case has loaded none of the texts but Ts yet -/
def LitS (Z : State) (own : String) (i : Nat) (bs : List Value) (Ts : List String) (h : Heap) (vm : Vm) : Prop := IB Z vm Ts ∨ LitL Z own i bs h vm
theorem own_litmove {own : String} {i : Nat} {a : Addr} {vm1 : Vm} (L : Lit (Z.setVm vm0) own i a) (hW : (s.setVm vm0).WarmedH vm1) : Lit (Z.setVm vm1) own i a := Lit.stays (s := s) (vm0 := vm0) L hW.wide
theorem own_litL_stays {own : String} {i : Nat} {bs : List Value} : Stays (LitL Z own i bs h) := fun s vm0 vm1 hW ⟨a, b, L, r⟩ => ⟨a, b, own_litmove (s := s) L hW, r⟩
theorem own_ib_stays {Ts : List String} : Stays (fun vm => IB Z vm Ts) := fun s vm0 vm1 hW ⟨more, e1, e2⟩ => ⟨more, by rw [← e1]; exact hW.interned_eq, e2⟩
theorem own_litS_stays {own : String} {i : Nat} {bs : List Value} {Ts : List String} : Stays (LitS Z own i bs Ts h) := fun s vm0 vm1 hW q => q.imp (own_ib_stays s vm0 vm1 hW) (own_litL_stays s vm0 vm1 hW)
theorem LitL.ext {own : String} {i : Nat} {bs : List Value} {vm : Vm} {h' : Heap} (F : LitL Z own i bs h vm) (E : Ext h h') : LitL Z own i bs h' vm := by
  obtain ⟨a, b, L, r1, r2, r3, r4⟩ := F; exact ⟨a, b, L, r1.ext E, r2.ext E, r3.ext E, r4.ext E⟩
theorem own_ldcE (X : Stand p l e R (s.setVm vm0) m args below meth c T locs cells slots) (hx : p.tables.exec = Jvm.exec) (hby : c.code = bytes) (hZ : Z.Warmed39 vm0) {own text : String} {i : Nat} (hown : vm0.findClass own = some m.cls) (w : (Jvm.Cond.stringLink own i text).before a0 Z = true) (wS : ∀ a ∈ Bundle.stringAtoms, a.before a0 Z = true) (eT : T.heap = h) (hS : s.Since vm0 k0) (hk : k0 ≤ h.size) (N : Fr s.heap.size locs) (hO : Ext Z.heap s.heap) (hh : Jvm.Lit.constHeld Z own i) (hcw : Jvm.Lit.compactW.before a0 Z = true) {Ts : List String} {bs : List Value} {z : Int32} (ht : (∀ c ∈ text.toList, c.toNat < 256) ∧ text.toList.map (fun c => Value.int (Jvm.Lit.byteI c.toNat.toUInt16)) = bs) (hz : ¬ z < 0) (hl : z.toNatClampNeg = bs.length) (hnot : text ∉ Ts) (LS : LitS Z own i bs Ts h vm0) (hd : decode bytes pc = .ok (.ldc i, 2)) (n : Nat) (hn : 4 * text.toList.length ≤ n) (hbig : n ≤ 536870912) (hc : cells + 2 ≤ R.cells) (hl' : slots + (n + 4) ≤ R.slots) (hp : pc + 2 = pc')
    (k : ∀ (a b : Addr) (T' : State) (h' : Heap) (vm' : Vm) (k1 : Nat), Stand p l e R (s.setVm vm') m args below meth c T' locs (cells + 2) (slots + (n + 4)) → T'.heap = h' → Ext h h' → s.Since vm' k1 → k1 ≤ h'.size → Z.Warmed39 vm' → vm'.findClass own = some m.cls → Lit (Z.setVm vm') own i a → Exa Z h' a "java/lang/String" → Fld Z h' a "java/lang/String" "coder" "B" (.int 0) → Fld Z h' a "java/lang/String" "value" "[B" (.ref b) → AV Z h' b .byte bs → GoP p e below Φ (T'.setTop (mkF m pc' Ls (.ref a :: rest)))) : GoP p e below Φ (T.setTop (mkF m pc Ls (rest))) := by
  subst hp
  rcases LS with I | ⟨a, b, L, r1, r2, r3, r4⟩
  · obtain ⟨a, T', h', k1, b, kk, X', e', E', hS', hk', hZ', hown', x1, x2, x3, x4, -, -, I', L', st'⟩ := ldcSVL X hx hZ hown w wS eT hS hk N (fun b cl q => hO.2 b cl q) I hnot hh hcw ht hz hl (g := mkF m pc Ls rest) rfl (hb hby hd) hn hbig hc hl'
    exact own_step st' (k a b T' h' T'.vm k1 X' e' E' hS' hk' hZ' hown' L' x1 x2 x3 (AV.of x4 hl.symm))
  · have st' := ldcAgain X hx hZ hown w L (g := mkF m pc Ls rest) rfl (hb hby hd)
    exact own_step st' (k a b T h vm0 k0 (X.mono (by omega) (by omega)) eT ⟨Nat.le_refl _, fun _ _ q => q⟩ hS hk hZ hown L r1 r2 r3 r4)
theorem own_ldcA (X : Stand p l e R (s.setVm vm0) m args below meth c T locs cells slots) (hx : p.tables.exec = Jvm.exec) (hby : c.code = bytes) (hZ : Z.Warmed39 vm0) {own text : String} {i : Nat} (hown : vm0.findClass own = some m.cls) (w : (Jvm.Cond.stringLink own i text).before a0 Z = true) {a : Addr} (L : Lit (Z.setVm vm0) own i a) (hd : decode bytes pc = .ok (.ldc i, 2)) (hp : pc + 2 = pc') (k : GoP p e below Φ (T.setTop (mkF m pc' Ls (.ref a :: rest)))) : GoP p e below Φ (T.setTop (mkF m pc Ls (rest))) := by
  subst hp
  exact own_step (ldcAgain X hx hZ hown w L (g := mkF m pc Ls rest) rfl (hb hby hd)) k
theorem own_ne_av {a b : Addr} {C : String} {k : Nat} {ty : FieldType} {vs : List Value} (E : Exa Z h a C) (wi : (Jvm.Cond.instantiable C k).before a0 Z = true) (F : AV Z h b ty vs) : a ≠ b := by
  obtain ⟨cl, A, -⟩ := F; exact ne_arr E wi A
end OwnKitX
end Jvm.Pilot.@@N@@
namespace Jvm.Pilot.@@N@@
open Jvm Jvm.ClassFile Sem Op Lib Jvm.Free Jvm.Stand Jvm.LawKit Jvm.RoadKit Bundle Jvm.Pilot.@@N@@.Jvm.D
theorem own_strs0 : ∀ a ∈ Bundle.stringAtoms, a ∈ tables_1 := by decide +kernel
theorem own_strs {Z : State} {a0 : Array Value} (hw : ∀ d ∈ tables_1, d.before a0 Z = true) : ∀ a ∈ Bundle.stringAtoms, a.before a0 Z = true := fun a q => hw a (own_strs0 a q)
theorem ef_rmCo (m : MethodId) (x0 : Addr) : entryFrame m #[(.ref x0)] 1 = mkF m 0 #[.val (.ref x0)] [] := by first | (simp [entryFrame, mkF, argsToLocals, Value.category]; done) | rfl
theorem pn_java_lang_String : plainName "java/lang/String" = true := by first | (simp [plainName, overriddenIn]; done) | decide +kernel
theorem d_jdk_42_method_152_code_0 : decode jdk_42_method_152_code 0 = .ok (.getstatic 38, 3) := by decide +kernel
theorem d_jdk_42_method_152_code_3 : decode jdk_42_method_152_code 3 = .ok (.ifCond .eq 10, 3) := by decide +kernel
theorem d_jdk_42_method_152_code_6 : decode jdk_42_method_152_code 6 = .ok (.aload_n 0, 1) := by decide +kernel
theorem d_jdk_42_method_152_code_7 : decode jdk_42_method_152_code 7 = .ok (.getfield 15, 3) := by decide +kernel
theorem d_jdk_42_method_152_code_10 : decode jdk_42_method_152_code 10 = .ok (.goto 4, 3) := by decide +kernel
theorem d_jdk_42_method_152_code_14 : decode jdk_42_method_152_code 14 = .ok (.ireturn, 1) := by decide +kernel
set_option maxRecDepth 65536 in
set_option maxHeartbeats 40000000 in
theorem rmCo (l : Launch) (Z : State) (a0 : Array Value) (hw : ∀ d ∈ tables_1, d.before a0 Z = true) (a : Addr) (cs : Int32) (h0 : Heap) (hcs : ¬ cs = (0 : Int32)) (Scs : Sta Z h0 "java/lang/String" "COMPACT_STRINGS" "Z" (.int cs)) (F : Fld Z h0 a "java/lang/String" "coder" "B" (.int (0 : Int32))) : Con l Z (⟨"java/lang/String", "coder", "()B"⟩ : MethodName) jdk_42_method_152_code 1 (some .byte) [] ({ frames := 0, cells := 0, slots := 0, locals := 0 } : Room) #[(.ref a)] h0 (fun v h L => v = some (.int (0 : Int32)) ∧ L = [] ∧ h = h0) := by
  refine Con.of (plainFor_of_name pn_java_lang_String) ?_
  intro p e s m below meth c T X hx hby hml hown hnm hret eT hZ hsh Φ fin
  replace hown : s.vm.findClass "java/lang/String" = some m.cls := hown
  replace hml : 1 = c.maxLocals := hml.symm
  refine own_step (fun t k => castTop (ef_rmCo m a) k) ?_
  obtain ⟨T1, X1, e1, st1⟩ := getS2 X hx hZ hown (host := "") (Or.inl (own_w hw 25 rfl)) Via.refl eT Scs (g := (mkF m 0 #[.val (.ref a)] [])) rfl (hb hby d_jdk_42_method_152_code_0)
  refine own_step st1 ?_
  show GoP p e below Φ (T1.setTop (mkF m 3 #[.val (.ref a)] [(.int cs)]))
  refine own_ifN X1 hx hby d_jdk_42_method_152_code_3 ((if0 _ _).trans (feq hcs).1) (pc' := 6) rfl ?_
  refine own_aloadN X1 hx hby d_jdk_42_method_152_code_6 rfl rfl (pc' := 7) rfl ?_
  obtain ⟨T2, X2, e2, st2⟩ := getF X1 hx hZ hown (host := "") (Or.inl (own_w hw 21 rfl)) Via.refl e1 F (g := (mkF m 7 #[.val (.ref a)] [(.ref a)])) rfl rfl (hb hby d_jdk_42_method_152_code_7)
  refine own_step st2 ?_
  show GoP p e below Φ (T2.setTop (mkF m 10 #[.val (.ref a)] [(.int (0 : Int32))]))
  refine own_goto X2 hx hby d_jdk_42_method_152_code_10 (by decide) (pc' := 14) (by decide) ?_
  exact own_retN X2 hx hby fin hret (by simp) rfl d_jdk_42_method_152_code_14 (by decide) (by decide) ⟨rfl, rfl, e2⟩
theorem ef_rmLen0 (m : MethodId) (x0 : Addr) : entryFrame m #[(.ref x0)] 1 = mkF m 0 #[.val (.ref x0)] [] := by first | (simp [entryFrame, mkF, argsToLocals, Value.category]; done) | rfl
theorem d_jdk_42_method_54_code_0 : decode jdk_42_method_54_code 0 = .ok (.aload_n 0, 1) := by decide +kernel
theorem d_jdk_42_method_54_code_1 : decode jdk_42_method_54_code 1 = .ok (.getfield 9, 3) := by decide +kernel
theorem d_jdk_42_method_54_code_4 : decode jdk_42_method_54_code 4 = .ok (.arraylength, 1) := by decide +kernel
theorem d_jdk_42_method_54_code_5 : decode jdk_42_method_54_code 5 = .ok (.aload_n 0, 1) := by decide +kernel
theorem d_jdk_42_method_54_code_6 : decode jdk_42_method_54_code 6 = .ok (.invokevirtual 335, 3) := by decide +kernel
theorem pd___B : parseMethodDescriptor "()B" = some ⟨[], some .byte⟩ := by decide +kernel
theorem d_jdk_42_method_54_code_9 : decode jdk_42_method_54_code 9 = .ok (.ishr, 1) := by decide +kernel
theorem d_jdk_42_method_54_code_10 : decode jdk_42_method_54_code 10 = .ok (.ireturn, 1) := by decide +kernel
set_option maxRecDepth 65536 in
set_option maxHeartbeats 40000000 in
theorem rmLen0 (l : Launch) (Z : State) (a0 : Array Value) (hw : ∀ d ∈ tables_1, d.before a0 Z = true) (a b : Addr) (cs : Int32)  (h0 : Heap) (hcs : ¬ cs = (0 : Int32)) (Scs : Sta Z h0 "java/lang/String" "COMPACT_STRINGS" "Z" (.int cs)) (E : Exa Z h0 a "java/lang/String") (F : Fld Z h0 a "java/lang/String" "coder" "B" (.int (0 : Int32))) (G : Fld Z h0 a "java/lang/String" "value" "[B" (.ref b)) (V : AV Z h0 b .byte []) : Con l Z (⟨"java/lang/String", "length", "()I"⟩ : MethodName) jdk_42_method_54_code 1 (some .int) [] ({ frames := 1, cells := 0, slots := 0, locals := 14 } : Room) #[(.ref a)] h0 (fun v h L => v = some (.int (0 : Int32)) ∧ L = [] ∧ h = h0) := by
  refine Con.of (plainFor_of_name pn_java_lang_String) ?_
  intro p e s m below meth c T X hx hby hml hown hnm hret eT hZ hsh Φ fin
  replace hown : s.vm.findClass "java/lang/String" = some m.cls := hown
  replace hml : 1 = c.maxLocals := hml.symm
  refine own_step (fun t k => castTop (ef_rmLen0 m a) k) ?_
  refine own_aloadN X hx hby d_jdk_42_method_54_code_0 rfl rfl (pc' := 1) rfl ?_
  obtain ⟨T1, X1, e1, st1⟩ := getF X hx hZ hown (host := "") (Or.inl (own_w hw 20 rfl)) Via.refl eT G (g := (mkF m 1 #[.val (.ref a)] [(.ref a)])) rfl rfl (hb hby d_jdk_42_method_54_code_1)
  refine own_step st1 ?_
  show GoP p e below Φ (T1.setTop (mkF m 4 #[.val (.ref a)] [(.ref b)]))
  refine own_alen X1 hx hby hZ e1 (n := (0 : Int32)) V rfl d_jdk_42_method_54_code_4 (pc' := 5) rfl ?_
  refine own_aloadN X1 hx hby d_jdk_42_method_54_code_5 rfl rfl (pc' := 6) rfl ?_
  refine own_callV X1 hx hby hZ (by exact hml) hown (own_w hw 65 rfl) (own_w hw 66 rfl) (own_w hw 68 rfl) (own_w hw 67 rfl) (own_w hw 3 rfl) (own_w hw 69 rfl) (by decide) e1 1 (by decide) (by decide) (by decide) (by decide) (argsL := []) (rest := [(.int (0 : Int32))]) (lenOf pd___B rfl) rfl (Nat.le_of_eq rfl) E (rmCo l Z a0 hw a cs h0 hcs Scs F) d_jdk_42_method_54_code_6 (pc' := 9) rfl ?_
  intro v2 T2 L2 X2 hQ2
  obtain ⟨rfl, rfl, e2⟩ := hQ2
  rw [List.append_nil] at X2
  replace e2 : T2.heap = h0 := e2
  show GoP p e below Φ (T2.setTop (mkF m 9 #[.val (.ref a)] [(.int (0 : Int32)), (.int (0 : Int32))]))
  refine own_ishr X2 hx hby d_jdk_42_method_54_code_9 (pc' := 10) rfl ?_
  show GoP p e below Φ (T2.setTop (mkF m 10 #[.val (.ref a)] [(.int (0 : Int32))]))
  exact own_retI X2 hx hby fin hret d_jdk_42_method_54_code_10 (by decide) (by decide) ⟨rfl, rfl, e2⟩
theorem ef_rmLen1 (m : MethodId) (x0 : Addr) : entryFrame m #[(.ref x0)] 1 = mkF m 0 #[.val (.ref x0)] [] := by first | (simp [entryFrame, mkF, argsToLocals, Value.category]; done) | rfl
set_option maxRecDepth 65536 in
set_option maxHeartbeats 40000000 in
theorem rmLen1 (l : Launch) (Z : State) (a0 : Array Value) (hw : ∀ d ∈ tables_1, d.before a0 Z = true) (a b : Addr) (cs : Int32) (x0 : Int32) (h0 : Heap) (hcs : ¬ cs = (0 : Int32)) (Scs : Sta Z h0 "java/lang/String" "COMPACT_STRINGS" "Z" (.int cs)) (E : Exa Z h0 a "java/lang/String") (F : Fld Z h0 a "java/lang/String" "coder" "B" (.int (0 : Int32))) (G : Fld Z h0 a "java/lang/String" "value" "[B" (.ref b)) (V : AV Z h0 b .byte [(.int x0)]) : Con l Z (⟨"java/lang/String", "length", "()I"⟩ : MethodName) jdk_42_method_54_code 1 (some .int) [] ({ frames := 1, cells := 0, slots := 0, locals := 14 } : Room) #[(.ref a)] h0 (fun v h L => v = some (.int (1 : Int32)) ∧ L = [] ∧ h = h0) := by
  refine Con.of (plainFor_of_name pn_java_lang_String) ?_
  intro p e s m below meth c T X hx hby hml hown hnm hret eT hZ hsh Φ fin
  replace hown : s.vm.findClass "java/lang/String" = some m.cls := hown
  replace hml : 1 = c.maxLocals := hml.symm
  refine own_step (fun t k => castTop (ef_rmLen1 m a) k) ?_
  refine own_aloadN X hx hby d_jdk_42_method_54_code_0 rfl rfl (pc' := 1) rfl ?_
  obtain ⟨T1, X1, e1, st1⟩ := getF X hx hZ hown (host := "") (Or.inl (own_w hw 20 rfl)) Via.refl eT G (g := (mkF m 1 #[.val (.ref a)] [(.ref a)])) rfl rfl (hb hby d_jdk_42_method_54_code_1)
  refine own_step st1 ?_
  show GoP p e below Φ (T1.setTop (mkF m 4 #[.val (.ref a)] [(.ref b)]))
  refine own_alen X1 hx hby hZ e1 (n := (1 : Int32)) V rfl d_jdk_42_method_54_code_4 (pc' := 5) rfl ?_
  refine own_aloadN X1 hx hby d_jdk_42_method_54_code_5 rfl rfl (pc' := 6) rfl ?_
  refine own_callV X1 hx hby hZ (by exact hml) hown (own_w hw 65 rfl) (own_w hw 66 rfl) (own_w hw 68 rfl) (own_w hw 67 rfl) (own_w hw 3 rfl) (own_w hw 69 rfl) (by decide) e1 1 (by decide) (by decide) (by decide) (by decide) (argsL := []) (rest := [(.int (1 : Int32))]) (lenOf pd___B rfl) rfl (Nat.le_of_eq rfl) E (rmCo l Z a0 hw a cs h0 hcs Scs F) d_jdk_42_method_54_code_6 (pc' := 9) rfl ?_
  intro v2 T2 L2 X2 hQ2
  obtain ⟨rfl, rfl, e2⟩ := hQ2
  rw [List.append_nil] at X2
  replace e2 : T2.heap = h0 := e2
  show GoP p e below Φ (T2.setTop (mkF m 9 #[.val (.ref a)] [(.int (0 : Int32)), (.int (1 : Int32))]))
  refine own_ishr X2 hx hby d_jdk_42_method_54_code_9 (pc' := 10) rfl ?_
  show GoP p e below Φ (T2.setTop (mkF m 10 #[.val (.ref a)] [(.int (1 : Int32))]))
  exact own_retI X2 hx hby fin hret d_jdk_42_method_54_code_10 (by decide) (by decide) ⟨rfl, rfl, e2⟩
theorem ef_rmLen2 (m : MethodId) (x0 : Addr) : entryFrame m #[(.ref x0)] 1 = mkF m 0 #[.val (.ref x0)] [] := by first | (simp [entryFrame, mkF, argsToLocals, Value.category]; done) | rfl
set_option maxRecDepth 65536 in
set_option maxHeartbeats 40000000 in
theorem rmLen2 (l : Launch) (Z : State) (a0 : Array Value) (hw : ∀ d ∈ tables_1, d.before a0 Z = true) (a b : Addr) (cs : Int32) (x0 : Int32) (x1 : Int32) (h0 : Heap) (hcs : ¬ cs = (0 : Int32)) (Scs : Sta Z h0 "java/lang/String" "COMPACT_STRINGS" "Z" (.int cs)) (E : Exa Z h0 a "java/lang/String") (F : Fld Z h0 a "java/lang/String" "coder" "B" (.int (0 : Int32))) (G : Fld Z h0 a "java/lang/String" "value" "[B" (.ref b)) (V : AV Z h0 b .byte [(.int x0), (.int x1)]) : Con l Z (⟨"java/lang/String", "length", "()I"⟩ : MethodName) jdk_42_method_54_code 1 (some .int) [] ({ frames := 1, cells := 0, slots := 0, locals := 14 } : Room) #[(.ref a)] h0 (fun v h L => v = some (.int (2 : Int32)) ∧ L = [] ∧ h = h0) := by
  refine Con.of (plainFor_of_name pn_java_lang_String) ?_
  intro p e s m below meth c T X hx hby hml hown hnm hret eT hZ hsh Φ fin
  replace hown : s.vm.findClass "java/lang/String" = some m.cls := hown
  replace hml : 1 = c.maxLocals := hml.symm
  refine own_step (fun t k => castTop (ef_rmLen2 m a) k) ?_
  refine own_aloadN X hx hby d_jdk_42_method_54_code_0 rfl rfl (pc' := 1) rfl ?_
  obtain ⟨T1, X1, e1, st1⟩ := getF X hx hZ hown (host := "") (Or.inl (own_w hw 20 rfl)) Via.refl eT G (g := (mkF m 1 #[.val (.ref a)] [(.ref a)])) rfl rfl (hb hby d_jdk_42_method_54_code_1)
  refine own_step st1 ?_
  show GoP p e below Φ (T1.setTop (mkF m 4 #[.val (.ref a)] [(.ref b)]))
  refine own_alen X1 hx hby hZ e1 (n := (2 : Int32)) V rfl d_jdk_42_method_54_code_4 (pc' := 5) rfl ?_
  refine own_aloadN X1 hx hby d_jdk_42_method_54_code_5 rfl rfl (pc' := 6) rfl ?_
  refine own_callV X1 hx hby hZ (by exact hml) hown (own_w hw 65 rfl) (own_w hw 66 rfl) (own_w hw 68 rfl) (own_w hw 67 rfl) (own_w hw 3 rfl) (own_w hw 69 rfl) (by decide) e1 1 (by decide) (by decide) (by decide) (by decide) (argsL := []) (rest := [(.int (2 : Int32))]) (lenOf pd___B rfl) rfl (Nat.le_of_eq rfl) E (rmCo l Z a0 hw a cs h0 hcs Scs F) d_jdk_42_method_54_code_6 (pc' := 9) rfl ?_
  intro v2 T2 L2 X2 hQ2
  obtain ⟨rfl, rfl, e2⟩ := hQ2
  rw [List.append_nil] at X2
  replace e2 : T2.heap = h0 := e2
  show GoP p e below Φ (T2.setTop (mkF m 9 #[.val (.ref a)] [(.int (0 : Int32)), (.int (2 : Int32))]))
  refine own_ishr X2 hx hby d_jdk_42_method_54_code_9 (pc' := 10) rfl ?_
  show GoP p e below Φ (T2.setTop (mkF m 10 #[.val (.ref a)] [(.int (2 : Int32))]))
  exact own_retI X2 hx hby fin hret d_jdk_42_method_54_code_10 (by decide) (by decide) ⟨rfl, rfl, e2⟩
theorem ef_rmC5_1 (m : MethodId) (x0 : Addr) (x1 : Int32) (x2 : Addr) (x3 : Int32) (x4 : Int32) : entryFrame m #[(.ref x0), (.int x1), (.ref x2), (.int x3), (.int x4)] 7 = mkF m 0 #[.val (.ref x0), .val (.int x1), .val (.ref x2), .val (.int x3), .val (.int x4), .unset, .unset] [] := by first | (simp [entryFrame, mkF, argsToLocals, Value.category]; done) | rfl
theorem pn_java_lang_StringUTF16 : plainName "java/lang/StringUTF16" = true := by first | (simp [plainName, overriddenIn]; done) | decide +kernel
theorem d_jdk_52_method_21_code_0 : decode jdk_52_method_21_code 0 = .ok (.iconst 0, 1) := by decide +kernel
theorem d_jdk_52_method_21_code_1 : decode jdk_52_method_21_code 1 = .ok (.istore 5, 2) := by decide +kernel
theorem d_jdk_52_method_21_code_3 : decode jdk_52_method_21_code 3 = .ok (.iload 5, 2) := by decide +kernel
theorem d_jdk_52_method_21_code_5 : decode jdk_52_method_21_code 5 = .ok (.iload 4, 2) := by decide +kernel
theorem d_jdk_52_method_21_code_7 : decode jdk_52_method_21_code 7 = .ok (.if_icmp .ge 37, 3) := by decide +kernel
theorem d_jdk_52_method_21_code_10 : decode jdk_52_method_21_code 10 = .ok (.aload_n 0, 1) := by decide +kernel
theorem d_jdk_52_method_21_code_11 : decode jdk_52_method_21_code 11 = .ok (.iload_n 1, 1) := by decide +kernel
theorem d_jdk_52_method_21_code_12 : decode jdk_52_method_21_code 12 = .ok (.caload, 1) := by decide +kernel
theorem d_jdk_52_method_21_code_13 : decode jdk_52_method_21_code 13 = .ok (.istore 6, 2) := by decide +kernel
theorem d_jdk_52_method_21_code_15 : decode jdk_52_method_21_code 15 = .ok (.iload 6, 2) := by decide +kernel
theorem d_jdk_52_method_21_code_17 : decode jdk_52_method_21_code 17 = .ok (.sipush 255, 3) := by decide +kernel
theorem d_jdk_52_method_21_code_20 : decode jdk_52_method_21_code 20 = .ok (.if_icmp .le 6, 3) := by decide +kernel
theorem d_jdk_52_method_21_code_26 : decode jdk_52_method_21_code 26 = .ok (.aload_n 2, 1) := by decide +kernel
theorem d_jdk_52_method_21_code_27 : decode jdk_52_method_21_code 27 = .ok (.iload_n 3, 1) := by decide +kernel
theorem d_jdk_52_method_21_code_28 : decode jdk_52_method_21_code 28 = .ok (.iload 6, 2) := by decide +kernel
theorem d_jdk_52_method_21_code_30 : decode jdk_52_method_21_code 30 = .ok (.i2b, 1) := by decide +kernel
theorem d_jdk_52_method_21_code_31 : decode jdk_52_method_21_code 31 = .ok (.bastore, 1) := by decide +kernel
theorem d_jdk_52_method_21_code_32 : decode jdk_52_method_21_code 32 = .ok (.iinc 1 1, 3) := by decide +kernel
theorem d_jdk_52_method_21_code_35 : decode jdk_52_method_21_code 35 = .ok (.iinc 3 1, 3) := by decide +kernel
theorem d_jdk_52_method_21_code_38 : decode jdk_52_method_21_code 38 = .ok (.iinc 5 1, 3) := by decide +kernel
theorem d_jdk_52_method_21_code_41 : decode jdk_52_method_21_code 41 = .ok (.goto (-38), 3) := by decide +kernel
theorem d_jdk_52_method_21_code_44 : decode jdk_52_method_21_code 44 = .ok (.iload 4, 2) := by decide +kernel
theorem d_jdk_52_method_21_code_46 : decode jdk_52_method_21_code 46 = .ok (.ireturn, 1) := by decide +kernel
set_option maxRecDepth 65536 in
set_option maxHeartbeats 40000000 in
theorem rmC5_1 (l : Launch) (Z : State) (a0 : Array Value) (hw : ∀ d ∈ tables_1, d.before a0 Z = true) (a b : Addr) (x0 : Int32) (n0 : Nat) (h0 : Heap) (hx0 : ¬ (255 : Int32) < x0) (n0_b : n0 ≤ b) (ne_a_b : a ≠ b) (Va : AV Z h0 a .char [(.int x0)]) (Vb : AV Z h0 b .byte [(.int (0 : Int32))]) : Con l Z (⟨"java/lang/StringUTF16", "compress", "([CI[BII)I"⟩ : MethodName) jdk_52_method_21_code 7 (some .int) [] ({ frames := 0, cells := 0, slots := 0, locals := 0 } : Room) #[(.ref a), (.int (0 : Int32)), (.ref b), (.int (0 : Int32)), (.int (1 : Int32))] h0 (fun v h L => v = some (.int (1 : Int32)) ∧ Fr n0 L ∧ Keep h0 h [b] ∧ AV Z h b .byte [(.int (nar .byte (x0.toInt8.toInt32)))]) := by
  refine Con.of (plainFor_of_name pn_java_lang_StringUTF16) ?_
  intro p e s m below meth c T X hx hby hml hown hnm hret eT hZ hsh Φ fin
  replace hown : s.vm.findClass "java/lang/StringUTF16" = some m.cls := hown
  replace hml : 7 = c.maxLocals := hml.symm
  refine own_step (fun t k => castTop (ef_rmC5_1 m a (0 : Int32) b (0 : Int32) (1 : Int32)) k) ?_
  have N0 := Fr.nil n0
  have K0 : Keep h0 h0 [b] := Keep.refl h0 [b]
  refine own_iconst X hx hby d_jdk_52_method_21_code_0 (v := (0 : Int32)) rfl (pc' := 1) rfl ?_
  refine own_istore X hx hby d_jdk_52_method_21_code_1  (Ls' := #[.val (.ref a), .val (.int (0 : Int32)), .val (.ref b), .val (.int (0 : Int32)), .val (.int (1 : Int32)), .val (.int (0 : Int32)), .unset]) rfl (pc' := 3) rfl ?_
  refine own_iload X hx hby d_jdk_52_method_21_code_3 rfl (pc' := 5) rfl ?_
  refine own_iload X hx hby d_jdk_52_method_21_code_5 rfl (pc' := 7) rfl ?_
  refine own_icmpN X hx hby d_jdk_52_method_21_code_7 (tlt (by decide)).2.1 (pc' := 10) rfl ?_
  refine own_aloadN X hx hby d_jdk_52_method_21_code_10 rfl rfl (pc' := 11) rfl ?_
  refine own_iloadN X hx hby d_jdk_52_method_21_code_11 rfl (pc' := 12) rfl ?_
  refine own_caload X hx hby hZ eT Va (by decide) (v := (.int x0)) rfl d_jdk_52_method_21_code_12 (pc' := 13) rfl ?_
  refine own_istore X hx hby d_jdk_52_method_21_code_13  (Ls' := #[.val (.ref a), .val (.int (0 : Int32)), .val (.ref b), .val (.int (0 : Int32)), .val (.int (1 : Int32)), .val (.int (0 : Int32)), .val (.int x0)]) rfl (pc' := 15) rfl ?_
  refine own_iload X hx hby d_jdk_52_method_21_code_15 rfl (pc' := 17) rfl ?_
  refine own_sipush X hx hby d_jdk_52_method_21_code_17 (v := (255 : Int32)) rfl (pc' := 20) rfl ?_
  refine own_icmpY X hx hby d_jdk_52_method_21_code_20 (flt hx0).2.2.2 (by decide) (pc' := 26) (by decide) ?_
  refine own_aloadN X hx hby d_jdk_52_method_21_code_26 rfl rfl (pc' := 27) rfl ?_
  refine own_iloadN X hx hby d_jdk_52_method_21_code_27 rfl (pc' := 28) rfl ?_
  refine own_iload X hx hby d_jdk_52_method_21_code_28 rfl (pc' := 30) rfl ?_
  refine own_i2b X hx hby d_jdk_52_method_21_code_30 (pc' := 31) rfl ?_
  refine own_bastoreB X hx hby hZ eT Vb (by decide) (Nat.le_of_ble_eq_true rfl) d_jdk_52_method_21_code_31 (pc' := 32) rfl ?_
  intro T1 h1 X1 e1 W1 V1
  replace V1 : AV Z h1 b .byte [(.int (nar .byte (x0.toInt8.toInt32)))] := V1
  have V2_a := Va.other W1 ne_a_b
  have N1 := Fr.snoc X1 N0 n0_b
  have K1 : Keep h0 h1 [b] := K0.wr W1 (Or.inl (List.mem_of_getElem? (i := 0) rfl))
  refine own_iinc X1 hx hby d_jdk_52_method_21_code_32 rfl (v := (1 : Int32)) rfl (Ls' := #[.val (.ref a), .val (.int (1 : Int32)), .val (.ref b), .val (.int (0 : Int32)), .val (.int (1 : Int32)), .val (.int (0 : Int32)), .val (.int x0)]) rfl (pc' := 35) rfl ?_
  refine own_iinc X1 hx hby d_jdk_52_method_21_code_35 rfl (v := (1 : Int32)) rfl (Ls' := #[.val (.ref a), .val (.int (1 : Int32)), .val (.ref b), .val (.int (1 : Int32)), .val (.int (1 : Int32)), .val (.int (0 : Int32)), .val (.int x0)]) rfl (pc' := 38) rfl ?_
  refine own_iinc X1 hx hby d_jdk_52_method_21_code_38 rfl (v := (1 : Int32)) rfl (Ls' := #[.val (.ref a), .val (.int (1 : Int32)), .val (.ref b), .val (.int (1 : Int32)), .val (.int (1 : Int32)), .val (.int (1 : Int32)), .val (.int x0)]) rfl (pc' := 41) rfl ?_
  refine own_goto X1 hx hby d_jdk_52_method_21_code_41 (by decide) (pc' := 3) (by decide) ?_
  refine own_iload X1 hx hby d_jdk_52_method_21_code_3 rfl (pc' := 5) rfl ?_
  refine own_iload X1 hx hby d_jdk_52_method_21_code_5 rfl (pc' := 7) rfl ?_
  refine own_icmpY X1 hx hby d_jdk_52_method_21_code_7 (flt (by decide)).2.1 (by decide) (pc' := 44) (by decide) ?_
  refine own_iload X1 hx hby d_jdk_52_method_21_code_44 rfl (pc' := 46) rfl ?_
  exact own_retI X1 hx hby fin hret d_jdk_52_method_21_code_46 (by decide) (by decide) (by rw [e1]; exact ⟨rfl, N1, K1, V1⟩)
theorem ef_rmC3_1 (m : MethodId) (x0 : Addr) (x1 : Int32) (x2 : Int32) : entryFrame m #[(.ref x0), (.int x1), (.int x2)] 6 = mkF m 0 #[.val (.ref x0), .val (.int x1), .val (.int x2), .unset, .unset, .unset] [] := by first | (simp [entryFrame, mkF, argsToLocals, Value.category]; done) | rfl
theorem d_jdk_52_method_16_code_0 : decode jdk_52_method_16_code 0 = .ok (.iload_n 2, 1) := by decide +kernel
theorem d_jdk_52_method_16_code_1 : decode jdk_52_method_16_code 1 = .ok (.newarray .byte, 2) := by decide +kernel
theorem d_jdk_52_method_16_code_3 : decode jdk_52_method_16_code 3 = .ok (.astore_n 3, 1) := by decide +kernel
theorem d_jdk_52_method_16_code_4 : decode jdk_52_method_16_code 4 = .ok (.aload_n 0, 1) := by decide +kernel
theorem d_jdk_52_method_16_code_5 : decode jdk_52_method_16_code 5 = .ok (.iload_n 1, 1) := by decide +kernel
theorem d_jdk_52_method_16_code_6 : decode jdk_52_method_16_code 6 = .ok (.aload_n 3, 1) := by decide +kernel
theorem d_jdk_52_method_16_code_7 : decode jdk_52_method_16_code 7 = .ok (.iconst 0, 1) := by decide +kernel
theorem d_jdk_52_method_16_code_8 : decode jdk_52_method_16_code 8 = .ok (.iload_n 2, 1) := by decide +kernel
theorem d_jdk_52_method_16_code_9 : decode jdk_52_method_16_code 9 = .ok (.invokestatic 115, 3) := by decide +kernel
theorem pd___CI_BII_I : parseMethodDescriptor "([CI[BII)I" = some ⟨[(.array .char), .int, (.array .byte), .int, .int], some .int⟩ := by decide +kernel
theorem d_jdk_52_method_16_code_12 : decode jdk_52_method_16_code 12 = .ok (.istore 4, 2) := by decide +kernel
theorem d_jdk_52_method_16_code_14 : decode jdk_52_method_16_code 14 = .ok (.iload 4, 2) := by decide +kernel
theorem d_jdk_52_method_16_code_16 : decode jdk_52_method_16_code 16 = .ok (.iload_n 2, 1) := by decide +kernel
theorem d_jdk_52_method_16_code_17 : decode jdk_52_method_16_code 17 = .ok (.if_icmp .eq 40, 3) := by decide +kernel
theorem d_jdk_52_method_16_code_57 : decode jdk_52_method_16_code 57 = .ok (.aload_n 3, 1) := by decide +kernel
theorem d_jdk_52_method_16_code_58 : decode jdk_52_method_16_code 58 = .ok (.areturn, 1) := by decide +kernel
set_option maxRecDepth 65536 in
set_option maxHeartbeats 40000000 in
theorem rmC3_1 (l : Launch) (Z : State) (a0 : Array Value) (hw : ∀ d ∈ tables_1, d.before a0 Z = true) (a : Addr) (x0 : Int32) (n0 : Nat) (h0 : Heap) (hx0 : ¬ (255 : Int32) < x0) (Z0 : n0 ≤ h0.size) (Va : AV Z h0 a .char [(.int x0)]) : Con l Z (⟨"java/lang/StringUTF16", "compress", "([CII)[B"⟩ : MethodName) jdk_52_method_16_code 6 (some (.array .byte)) [] ({ frames := 1, cells := 1, slots := 1, locals := 20 } : Room) #[(.ref a), (.int (0 : Int32)), (.int (1 : Int32))] h0 (fun v h L => ∃ b : Addr, v = some (.ref b) ∧ Fr n0 L ∧ Keep h0 h [] ∧ h0.size ≤ b ∧ AV Z h b .byte [(.int (nar .byte (x0.toInt8.toInt32)))]) := by
  refine Con.of (plainFor_of_name pn_java_lang_StringUTF16) ?_
  intro p e s m below meth c T X hx hby hml hown hnm hret eT hZ hsh Φ fin
  replace hown : s.vm.findClass "java/lang/StringUTF16" = some m.cls := hown
  replace hml : 6 = c.maxLocals := hml.symm
  refine own_step (fun t k => castTop (ef_rmC3_1 m a (0 : Int32) (1 : Int32)) k) ?_
  have N0 := Fr.nil n0
  have K0 : Keep h0 h0 [] := Keep.refl h0 []
  refine own_iloadN X hx hby d_jdk_52_method_16_code_0 rfl (pc' := 1) rfl ?_
  obtain ⟨T1, h1, k1, X1, e1, E1, A1, st1⟩ := newP X hx hZ (own_w hw 15 rfl) eT (g := (mkF m 1 #[.val (.ref a), .val (.int (0 : Int32)), .val (.int (1 : Int32)), .unset, .unset, .unset] [(.int (1 : Int32))])) rfl (hb hby d_jdk_52_method_16_code_1) rfl (by decide) (cap := 1) (by decide) (by decide) (by decide) (by decide)
  obtain ⟨b1, g1⟩ : ∃ z, z = h0.size := ⟨_, rfl⟩
  have ne_a_b1 : a ≠ b1 := Nat.ne_of_lt (g1 ▸ Va.lt)
  have V2_a := Va.ext E1
  have Z1 : n0 ≤ h1.size := Nat.le_trans Z0 E1.1
  have n0_b1 : n0 ≤ b1 := g1 ▸ Z0
  have sz_b1 : h0.size ≤ b1 := g1 ▸ K0.1
  have K1 : Keep h0 h1 [] := K0.ext E1
  rw [← g1] at A1 st1
  refine own_step st1 ?_
  have V1 : AV Z h1 b1 .byte [(.int (0 : Int32))] := AV.new A1 (by decide)
  show GoP p e below Φ (T1.setTop (mkF m 3 #[.val (.ref a), .val (.int (0 : Int32)), .val (.int (1 : Int32)), .unset, .unset, .unset] [(.ref b1)]))
  refine own_astoreN X1 hx hby d_jdk_52_method_16_code_3 rfl (Ls' := #[.val (.ref a), .val (.int (0 : Int32)), .val (.int (1 : Int32)), .val (.ref b1), .unset, .unset]) rfl (pc' := 4) rfl ?_
  refine own_aloadN X1 hx hby d_jdk_52_method_16_code_4 rfl rfl (pc' := 5) rfl ?_
  refine own_iloadN X1 hx hby d_jdk_52_method_16_code_5 rfl (pc' := 6) rfl ?_
  refine own_aloadN X1 hx hby d_jdk_52_method_16_code_6 rfl rfl (pc' := 7) rfl ?_
  refine own_iconst X1 hx hby d_jdk_52_method_16_code_7 (v := (0 : Int32)) rfl (pc' := 8) rfl ?_
  refine own_iloadN X1 hx hby d_jdk_52_method_16_code_8 rfl (pc' := 9) rfl ?_
  refine own_callS X1 hx hby hZ (by exact hml) hown (own_w hw 82 rfl) (own_w hw 83 rfl) (own_w hw 80 rfl) (own_w hw 84 rfl) (by decide) e1 0 (by decide) (by decide) (by decide) (by decide) (argsL := [(.ref a), (.int (0 : Int32)), (.ref b1), (.int (0 : Int32)), (.int (1 : Int32))]) (rest := []) (lenOf pd___CI_BII_I rfl) rfl (rmC5_1 l Z a0 hw a b1 x0 n0 h1 hx0 n0_b1 ne_a_b1 V2_a V1) (Nat.le_of_eq rfl) d_jdk_52_method_16_code_9 (pc' := 12) rfl ?_
  intro v3 T3 L3 X3 hQ3
  obtain ⟨rfl, Nq3, K3, V3⟩ := hQ3
  have V4_a := V2_a.keep K3 (ninS ne_a_b1 nin0)
  have N3 := Fr.app N0 Nq3
  have Z3 : n0 ≤ T3.heap.size := Nat.le_trans Z1 K3.1
  have KK3 : Keep h0 T3.heap [] := K1.trans K3 (allS (Or.inr sz_b1) all0)
  show GoP p e below Φ (T3.setTop (mkF m 12 #[.val (.ref a), .val (.int (0 : Int32)), .val (.int (1 : Int32)), .val (.ref b1), .unset, .unset] [(.int (1 : Int32))]))
  refine own_istore X3 hx hby d_jdk_52_method_16_code_12  (Ls' := #[.val (.ref a), .val (.int (0 : Int32)), .val (.int (1 : Int32)), .val (.ref b1), .val (.int (1 : Int32)), .unset]) rfl (pc' := 14) rfl ?_
  refine own_iload X3 hx hby d_jdk_52_method_16_code_14 rfl (pc' := 16) rfl ?_
  refine own_iloadN X3 hx hby d_jdk_52_method_16_code_16 rfl (pc' := 17) rfl ?_
  refine own_icmpY X3 hx hby d_jdk_52_method_16_code_17 (teq (by decide)).1 (by decide) (pc' := 57) (by decide) ?_
  refine own_aloadN X3 hx hby d_jdk_52_method_16_code_57 rfl rfl (pc' := 58) rfl ?_
  exact own_retA X3 hx hby fin hret rfl rfl rfl d_jdk_52_method_16_code_58 (by decide) (by decide) ⟨b1, rfl, N3, KK3, sz_b1, V3⟩
theorem ef_rmCF_1 (m : MethodId) (x0 : Addr) (x1 : Int32) : entryFrame m #[(.ref x0), (.int x1)] 2 = mkF m 0 #[.val (.ref x0), .val (.int x1)] [] := by first | (simp [entryFrame, mkF, argsToLocals, Value.category]; done) | rfl
theorem d_jdk_52_method_15_code_0 : decode jdk_52_method_15_code 0 = .ok (.iload_n 1, 1) := by decide +kernel
theorem d_jdk_52_method_15_code_1 : decode jdk_52_method_15_code 1 = .ok (.aload_n 0, 1) := by decide +kernel
theorem d_jdk_52_method_15_code_2 : decode jdk_52_method_15_code 2 = .ok (.arraylength, 1) := by decide +kernel
theorem d_jdk_52_method_15_code_3 : decode jdk_52_method_15_code 3 = .ok (.isub, 1) := by decide +kernel
theorem d_jdk_52_method_15_code_4 : decode jdk_52_method_15_code 4 = .ok (.bipush 31, 2) := by decide +kernel
theorem d_jdk_52_method_15_code_6 : decode jdk_52_method_15_code 6 = .ok (.iushr, 1) := by decide +kernel
theorem d_jdk_52_method_15_code_7 : decode jdk_52_method_15_code 7 = .ok (.i2b, 1) := by decide +kernel
theorem d_jdk_52_method_15_code_8 : decode jdk_52_method_15_code 8 = .ok (.ireturn, 1) := by decide +kernel
set_option maxRecDepth 65536 in
set_option maxHeartbeats 40000000 in
theorem rmCF_1 (l : Launch) (Z : State) (a0 : Array Value) (hw : ∀ d ∈ tables_1, d.before a0 Z = true) (b : Addr) (x0 : Int32) (h0 : Heap) (V : AV Z h0 b .byte [(.int x0)]) : Con l Z (⟨"java/lang/StringUTF16", "coderFromArrayLen", "([BI)B"⟩ : MethodName) jdk_52_method_15_code 2 (some .byte) [] ({ frames := 0, cells := 0, slots := 0, locals := 0 } : Room) #[(.ref b), (.int (1 : Int32))] h0 (fun v h L => v = some (.int (0 : Int32)) ∧ L = [] ∧ h = h0) := by
  refine Con.of (plainFor_of_name pn_java_lang_StringUTF16) ?_
  intro p e s m below meth c T X hx hby hml hown hnm hret eT hZ hsh Φ fin
  replace hown : s.vm.findClass "java/lang/StringUTF16" = some m.cls := hown
  replace hml : 2 = c.maxLocals := hml.symm
  refine own_step (fun t k => castTop (ef_rmCF_1 m b (1 : Int32)) k) ?_
  refine own_iloadN X hx hby d_jdk_52_method_15_code_0 rfl (pc' := 1) rfl ?_
  refine own_aloadN X hx hby d_jdk_52_method_15_code_1 rfl rfl (pc' := 2) rfl ?_
  refine own_alen X hx hby hZ eT (n := (1 : Int32)) V rfl d_jdk_52_method_15_code_2 (pc' := 3) rfl ?_
  refine own_isub X hx hby d_jdk_52_method_15_code_3 (pc' := 4) rfl ?_
  show GoP p e below Φ (T.setTop (mkF m 4 #[.val (.ref b), .val (.int (1 : Int32))] [(.int (0 : Int32))]))
  refine own_bipush X hx hby d_jdk_52_method_15_code_4 (v := (31 : Int32)) rfl (pc' := 6) rfl ?_
  refine own_iushr X hx hby d_jdk_52_method_15_code_6 (pc' := 7) rfl ?_
  show GoP p e below Φ (T.setTop (mkF m 7 #[.val (.ref b), .val (.int (1 : Int32))] [(.int (0 : Int32))]))
  refine own_i2b X hx hby d_jdk_52_method_15_code_7 (pc' := 8) rfl ?_
  show GoP p e below Φ (T.setTop (mkF m 8 #[.val (.ref b), .val (.int (1 : Int32))] [(.int (0 : Int32))]))
  exact own_retN X hx hby fin hret (by simp) rfl d_jdk_52_method_15_code_8 (by decide) (by decide) ⟨rfl, rfl, eT⟩
theorem ef_rmI5_1 (m : MethodId) (x0 : Addr) (x1 : Addr) (x2 : Int32) (x3 : Int32) : entryFrame m #[(.ref x0), (.ref x1), (.int x2), (.int x3), .null] 6 = mkF m 0 #[.val (.ref x0), .val (.ref x1), .val (.int x2), .val (.int x3), .val .null, .unset] [] := by first | (simp [entryFrame, mkF, argsToLocals, Value.category]; done) | rfl
theorem d_jdk_42_method_149_code_0 : decode jdk_42_method_149_code 0 = .ok (.aload_n 0, 1) := by decide +kernel
theorem d_jdk_42_method_149_code_1 : decode jdk_42_method_149_code 1 = .ok (.invokespecial 1, 3) := by decide +kernel
theorem d_jdk_42_method_149_code_4 : decode jdk_42_method_149_code 4 = .ok (.iload_n 3, 1) := by decide +kernel
theorem d_jdk_42_method_149_code_5 : decode jdk_42_method_149_code 5 = .ok (.ifCond .ne 22, 3) := by decide +kernel
theorem d_jdk_42_method_149_code_27 : decode jdk_42_method_149_code 27 = .ok (.getstatic 38, 3) := by decide +kernel
theorem d_jdk_42_method_149_code_30 : decode jdk_42_method_149_code 30 = .ok (.ifCond .eq 28, 3) := by decide +kernel
theorem d_jdk_42_method_149_code_33 : decode jdk_42_method_149_code 33 = .ok (.aload_n 1, 1) := by decide +kernel
theorem d_jdk_42_method_149_code_34 : decode jdk_42_method_149_code 34 = .ok (.iload_n 2, 1) := by decide +kernel
theorem d_jdk_42_method_149_code_35 : decode jdk_42_method_149_code 35 = .ok (.iload_n 3, 1) := by decide +kernel
theorem d_jdk_42_method_149_code_36 : decode jdk_42_method_149_code 36 = .ok (.invokestatic 177, 3) := by decide +kernel
theorem pd___CII__B : parseMethodDescriptor "([CII)[B" = some ⟨[(.array .char), .int, .int], some (.array .byte)⟩ := by decide +kernel
theorem d_jdk_42_method_149_code_39 : decode jdk_42_method_149_code 39 = .ok (.astore 5, 2) := by decide +kernel
theorem d_jdk_42_method_149_code_41 : decode jdk_42_method_149_code 41 = .ok (.aload_n 0, 1) := by decide +kernel
theorem d_jdk_42_method_149_code_42 : decode jdk_42_method_149_code 42 = .ok (.aload 5, 2) := by decide +kernel
theorem d_jdk_42_method_149_code_44 : decode jdk_42_method_149_code 44 = .ok (.iload_n 3, 1) := by decide +kernel
theorem d_jdk_42_method_149_code_45 : decode jdk_42_method_149_code 45 = .ok (.invokestatic 47, 3) := by decide +kernel
theorem pd___BI_B : parseMethodDescriptor "([BI)B" = some ⟨[(.array .byte), .int], some .byte⟩ := by decide +kernel
theorem d_jdk_42_method_149_code_48 : decode jdk_42_method_149_code 48 = .ok (.putfield 15, 3) := by decide +kernel
theorem d_jdk_42_method_149_code_51 : decode jdk_42_method_149_code 51 = .ok (.aload_n 0, 1) := by decide +kernel
theorem d_jdk_42_method_149_code_52 : decode jdk_42_method_149_code 52 = .ok (.aload 5, 2) := by decide +kernel
theorem d_jdk_42_method_149_code_54 : decode jdk_42_method_149_code 54 = .ok (.putfield 9, 3) := by decide +kernel
theorem d_jdk_42_method_149_code_57 : decode jdk_42_method_149_code 57 = .ok (.return_, 1) := by decide +kernel
set_option maxRecDepth 65536 in
set_option maxHeartbeats 40000000 in
theorem rmI5_1 (l : Launch) (Z : State) (a0 : Array Value) (hw : ∀ d ∈ tables_1, d.before a0 Z = true) (a ca : Addr) (cs : Int32) (x0 : Int32) (n0 : Nat) (h0 : Heap) (hcs : ¬ cs = (0 : Int32)) (hx0 : ¬ (255 : Int32) < x0) (n0_a : n0 ≤ a) (Z0 : n0 ≤ h0.size) (ne_a_ca : a ≠ ca) (Scs : Sta Z h0 "java/lang/String" "COMPACT_STRINGS" "Z" (.int cs)) (E : Exa Z h0 a "java/lang/String") (F : Fld Z h0 a "java/lang/String" "coder" "B" (.int (0 : Int32))) (G : Fld Z h0 a "java/lang/String" "value" "[B" .null) (Vc : AV Z h0 ca .char [(.int x0)]) : Con l Z (⟨"java/lang/String", "<init>", "([CIILjava/lang/Void;)V"⟩ : MethodName) jdk_42_method_149_code 6 none [] ({ frames := 2, cells := 1, slots := 1, locals := 40 } : Room) #[(.ref a), (.ref ca), (.int (0 : Int32)), (.int (1 : Int32)), .null] h0 (fun v h L => v = none ∧ Fr n0 L ∧ Keep h0 h [a] ∧ ∃ b : Addr, h0.size ≤ b ∧ Exa Z h a "java/lang/String" ∧ Fld Z h a "java/lang/String" "coder" "B" (.int (0 : Int32)) ∧ Fld Z h a "java/lang/String" "value" "[B" (.ref b) ∧ AV Z h b .byte [(.int (nar .byte (x0.toInt8.toInt32)))]) := by
  refine Con.of (plainFor_of_name pn_java_lang_String) ?_
  intro p e s m below meth c T X hx hby hml hown hnm hret eT hZ hsh Φ fin
  replace hown : s.vm.findClass "java/lang/String" = some m.cls := hown
  replace hml : 6 = c.maxLocals := hml.symm
  refine own_step (fun t k => castTop (ef_rmI5_1 m a ca (0 : Int32) (1 : Int32)) k) ?_
  have N0 := Fr.nil n0
  have K0 : Keep h0 h0 [a] := Keep.refl h0 [a]
  refine own_aloadN X hx hby d_jdk_42_method_149_code_0 rfl rfl (pc' := 1) rfl ?_
  obtain ⟨T1, X1, e1, st1⟩ := initO X hx hZ hown (own_w hw 11 rfl) (own_w hw 12 rfl) (own_w hw 13 rfl) eT (g := (mkF m 1 #[.val (.ref a), .val (.ref ca), .val (.int (0 : Int32)), .val (.int (1 : Int32)), .val .null, .unset] [(.ref a)])) rfl hml rfl (hb hby d_jdk_42_method_149_code_1) (by decide) (W := 0) (by show 2 * 0 + _ ≤ _; exact Nat.le_of_eq rfl) (by decide)
  refine own_step st1 ?_
  show GoP p e below Φ (T1.setTop (mkF m 4 #[.val (.ref a), .val (.ref ca), .val (.int (0 : Int32)), .val (.int (1 : Int32)), .val .null, .unset] []))
  refine own_iloadN X1 hx hby d_jdk_42_method_149_code_4 rfl (pc' := 5) rfl ?_
  refine own_ifY X1 hx hby d_jdk_42_method_149_code_5 ((if0 _ _).trans (feq (by decide)).2) (by decide) (pc' := 27) (by decide) ?_
  obtain ⟨T2, X2, e2, st2⟩ := getS2 X1 hx hZ hown (host := "") (Or.inl (own_w hw 25 rfl)) Via.refl e1 Scs (g := (mkF m 27 #[.val (.ref a), .val (.ref ca), .val (.int (0 : Int32)), .val (.int (1 : Int32)), .val .null, .unset] [])) rfl (hb hby d_jdk_42_method_149_code_27)
  refine own_step st2 ?_
  show GoP p e below Φ (T2.setTop (mkF m 30 #[.val (.ref a), .val (.ref ca), .val (.int (0 : Int32)), .val (.int (1 : Int32)), .val .null, .unset] [(.int cs)]))
  refine own_ifN X2 hx hby d_jdk_42_method_149_code_30 ((if0 _ _).trans (feq hcs).1) (pc' := 33) rfl ?_
  refine own_aloadN X2 hx hby d_jdk_42_method_149_code_33 rfl rfl (pc' := 34) rfl ?_
  refine own_iloadN X2 hx hby d_jdk_42_method_149_code_34 rfl (pc' := 35) rfl ?_
  refine own_iloadN X2 hx hby d_jdk_42_method_149_code_35 rfl (pc' := 36) rfl ?_
  refine own_callS X2 hx hby hZ (by exact hml) hown (own_w hw 78 rfl) (own_w hw 79 rfl) (own_w hw 80 rfl) (own_w hw 81 rfl) (by decide) e2 0 (by decide) (by decide) (by decide) (by decide) (argsL := [(.ref ca), (.int (0 : Int32)), (.int (1 : Int32))]) (rest := []) (lenOf pd___CII__B rfl) rfl (rmC3_1 l Z a0 hw ca x0 n0 h0 hx0 Z0 Vc) (Nat.le_of_eq rfl) d_jdk_42_method_149_code_36 (pc' := 39) rfl ?_
  intro v3 T3 L3 X3 hQ3
  obtain ⟨bb3, rfl, Nq3, K3, sb3, V3⟩ := hQ3
  have ne_a_bb3 : a ≠ bb3 := Nat.ne_of_lt (Nat.lt_of_lt_of_le E.lt sb3)
  have szb : h0.size ≤ bb3 := Nat.le_trans K0.1 sb3
  have E4_a := E.keep K3
  have F5_coder := F.keep K3 nin0
  have F6_value := G.keep K3 nin0
  have N3 := Fr.app N0 Nq3
  have Z3 : n0 ≤ T3.heap.size := Nat.le_trans Z0 K3.1
  have KK3 : Keep h0 T3.heap [a] := K0.trans K3 all0
  show GoP p e below Φ (T3.setTop (mkF m 39 #[.val (.ref a), .val (.ref ca), .val (.int (0 : Int32)), .val (.int (1 : Int32)), .val .null, .unset] [(.ref bb3)]))
  refine own_astore X3 hx hby d_jdk_42_method_149_code_39 rfl (Ls' := #[.val (.ref a), .val (.ref ca), .val (.int (0 : Int32)), .val (.int (1 : Int32)), .val .null, .val (.ref bb3)]) rfl (pc' := 41) rfl ?_
  refine own_aloadN X3 hx hby d_jdk_42_method_149_code_41 rfl rfl (pc' := 42) rfl ?_
  refine own_aload X3 hx hby d_jdk_42_method_149_code_42 rfl rfl (pc' := 44) rfl ?_
  refine own_iloadN X3 hx hby d_jdk_42_method_149_code_44 rfl (pc' := 45) rfl ?_
  refine own_callS X3 hx hby hZ (by exact hml) hown (own_w hw 85 rfl) (own_w hw 86 rfl) (own_w hw 80 rfl) (own_w hw 87 rfl) (by decide) rfl 1 (by decide) (by decide) (by decide) (by decide) (argsL := [(.ref bb3), (.int (1 : Int32))]) (rest := [(.ref a)]) (lenOf pd___BI_B rfl) rfl (rmCF_1 l Z a0 hw bb3 (nar .byte (x0.toInt8.toInt32)) T3.heap V3) (Nat.le_of_eq rfl) d_jdk_42_method_149_code_45 (pc' := 48) rfl ?_
  intro v7 T7 L7 X7 hQ7
  obtain ⟨rfl, rfl, e7⟩ := hQ7
  rw [List.append_nil] at X7
  replace e7 : T7.heap = T3.heap := e7
  show GoP p e below Φ (T7.setTop (mkF m 48 #[.val (.ref a), .val (.ref ca), .val (.int (0 : Int32)), .val (.int (1 : Int32)), .val .null, .val (.ref bb3)] [(.int (0 : Int32)), (.ref a)]))
  obtain ⟨T8, h8, X8, e8, W8, st8⟩ := putFN X7 hx hZ hown (own_w hw 21 rfl) Via.refl e7 F5_coder E4_a (Or.inr ⟨(own_w hw 17 rfl), rfl, hnm⟩) (own_w hw 2 rfl) (ty := .byte) (v' := (.int (0 : Int32))) (by decide) rfl (by decide) (g := (mkF m 48 #[.val (.ref a), .val (.ref ca), .val (.int (0 : Int32)), .val (.int (1 : Int32)), .val .null, .val (.ref bb3)] [(.int (0 : Int32)), (.ref a)])) rfl rfl (hb hby d_jdk_42_method_149_code_48)
  refine own_step st8 ?_
  have E9_a := E4_a.wr W8
  have F10_coder := F5_coder.same W8
  have F11_value := F6_value.other W8 (Or.inr (slot_ne (Or.inr (own_w hw 16 rfl)) (Or.inr (own_w hw 17 rfl)) (by decide) (t := (.array .byte)) (t' := .byte) (by decide) (by decide)))
  have V12_bb3 := V3.other W8 (Ne.symm ne_a_bb3)
  have Z8 : n0 ≤ h8.size := by rw [W8.size]; exact Z3
  have N8 := Fr.snoc X8 N3 n0_a
  have K8 : Keep h0 h8 [a] := KK3.wr W8 (Or.inl (List.mem_of_getElem? (i := 0) rfl))
  show GoP p e below Φ (T8.setTop (mkF m 51 #[.val (.ref a), .val (.ref ca), .val (.int (0 : Int32)), .val (.int (1 : Int32)), .val .null, .val (.ref bb3)] []))
  refine own_aloadN X8 hx hby d_jdk_42_method_149_code_51 rfl rfl (pc' := 52) rfl ?_
  refine own_aload X8 hx hby d_jdk_42_method_149_code_52 rfl rfl (pc' := 54) rfl ?_
  obtain ⟨T13, h13, X13, e13, W13, st13⟩ := putF X8 hx hZ hown (host := "") (Or.inl (own_w hw 20 rfl)) Via.refl e8 F11_value E9_a (Or.inr ⟨(own_w hw 16 rfl), rfl, hnm⟩) (own_w hw 2 rfl) (ty := (.array .byte)) (by decide) rfl rfl (g := (mkF m 54 #[.val (.ref a), .val (.ref ca), .val (.int (0 : Int32)), .val (.int (1 : Int32)), .val .null, .val (.ref bb3)] [(.ref bb3), (.ref a)])) rfl rfl (hb hby d_jdk_42_method_149_code_54)
  refine own_step st13 ?_
  have E14_a := E9_a.wr W13
  have F15_coder := F10_coder.other W13 (Or.inr (slot_ne (Or.inr (own_w hw 17 rfl)) (Or.inr (own_w hw 16 rfl)) (by decide) (t := .byte) (t' := (.array .byte)) (by decide) (by decide)))
  have F16_value := F11_value.same W13
  have V17_bb3 := V12_bb3.other W13 (Ne.symm ne_a_bb3)
  have Z13 : n0 ≤ h13.size := by rw [W13.size]; exact Z8
  have N13 := Fr.snoc X13 N8 n0_a
  have K13 : Keep h0 h13 [a] := K8.wr W13 (Or.inl (List.mem_of_getElem? (i := 0) rfl))
  show GoP p e below Φ (T13.setTop (mkF m 57 #[.val (.ref a), .val (.ref ca), .val (.int (0 : Int32)), .val (.int (1 : Int32)), .val .null, .val (.ref bb3)] []))
  exact own_ret0 X13 hx hby fin hret d_jdk_42_method_149_code_57 (by decide) (by decide) (by rw [e13]; exact ⟨rfl, N13, K13, bb3, szb, E14_a, F15_coder, F16_value, V17_bb3⟩)
theorem ef_rmI1_1 (m : MethodId) (x0 : Addr) (x1 : Addr) : entryFrame m #[(.ref x0), (.ref x1)] 2 = mkF m 0 #[.val (.ref x0), .val (.ref x1)] [] := by first | (simp [entryFrame, mkF, argsToLocals, Value.category]; done) | rfl
theorem d_jdk_42_method_3_code_0 : decode jdk_42_method_3_code 0 = .ok (.aload_n 0, 1) := by decide +kernel
theorem d_jdk_42_method_3_code_1 : decode jdk_42_method_3_code 1 = .ok (.aload_n 1, 1) := by decide +kernel
theorem d_jdk_42_method_3_code_2 : decode jdk_42_method_3_code 2 = .ok (.iconst 0, 1) := by decide +kernel
theorem d_jdk_42_method_3_code_3 : decode jdk_42_method_3_code 3 = .ok (.aload_n 1, 1) := by decide +kernel
theorem d_jdk_42_method_3_code_4 : decode jdk_42_method_3_code 4 = .ok (.arraylength, 1) := by decide +kernel
theorem d_jdk_42_method_3_code_5 : decode jdk_42_method_3_code 5 = .ok (.aconst_null, 1) := by decide +kernel
theorem d_jdk_42_method_3_code_6 : decode jdk_42_method_3_code 6 = .ok (.invokespecial 27, 3) := by decide +kernel
theorem pd___CIILjava_lang_Void__V : parseMethodDescriptor "([CIILjava/lang/Void;)V" = some ⟨[(.array .char), .int, .int, (.object "java/lang/Void")], none⟩ := by decide +kernel
theorem d_jdk_42_method_3_code_9 : decode jdk_42_method_3_code 9 = .ok (.return_, 1) := by decide +kernel
set_option maxRecDepth 65536 in
set_option maxHeartbeats 40000000 in
theorem rmI1_1 (l : Launch) (Z : State) (a0 : Array Value) (hw : ∀ d ∈ tables_1, d.before a0 Z = true) (a ca : Addr) (cs : Int32) (x0 : Int32) (n0 : Nat) (h0 : Heap) (hcs : ¬ cs = (0 : Int32)) (hx0 : ¬ (255 : Int32) < x0) (n0_a : n0 ≤ a) (Z0 : n0 ≤ h0.size) (ne_a_ca : a ≠ ca) (Scs : Sta Z h0 "java/lang/String" "COMPACT_STRINGS" "Z" (.int cs)) (E : Exa Z h0 a "java/lang/String") (F : Fld Z h0 a "java/lang/String" "coder" "B" (.int (0 : Int32))) (G : Fld Z h0 a "java/lang/String" "value" "[B" .null) (Vc : AV Z h0 ca .char [(.int x0)]) : Con l Z (⟨"java/lang/String", "<init>", "([C)V"⟩ : MethodName) jdk_42_method_3_code 2 none [] ({ frames := 3, cells := 1, slots := 1, locals := 60 } : Room) #[(.ref a), (.ref ca)] h0 (fun v h L => v = none ∧ Fr n0 L ∧ Keep h0 h [a] ∧ ∃ b : Addr, h0.size ≤ b ∧ Exa Z h a "java/lang/String" ∧ Fld Z h a "java/lang/String" "coder" "B" (.int (0 : Int32)) ∧ Fld Z h a "java/lang/String" "value" "[B" (.ref b) ∧ AV Z h b .byte [(.int (nar .byte (x0.toInt8.toInt32)))]) := by
  refine Con.of (plainFor_of_name pn_java_lang_String) ?_
  intro p e s m below meth c T X hx hby hml hown hnm hret eT hZ hsh Φ fin
  replace hown : s.vm.findClass "java/lang/String" = some m.cls := hown
  replace hml : 2 = c.maxLocals := hml.symm
  refine own_step (fun t k => castTop (ef_rmI1_1 m a ca) k) ?_
  have N0 := Fr.nil n0
  have K0 : Keep h0 h0 [a] := Keep.refl h0 [a]
  refine own_aloadN X hx hby d_jdk_42_method_3_code_0 rfl rfl (pc' := 1) rfl ?_
  refine own_aloadN X hx hby d_jdk_42_method_3_code_1 rfl rfl (pc' := 2) rfl ?_
  refine own_iconst X hx hby d_jdk_42_method_3_code_2 (v := (0 : Int32)) rfl (pc' := 3) rfl ?_
  refine own_aloadN X hx hby d_jdk_42_method_3_code_3 rfl rfl (pc' := 4) rfl ?_
  refine own_alen X hx hby hZ eT (n := (1 : Int32)) Vc rfl d_jdk_42_method_3_code_4 (pc' := 5) rfl ?_
  refine own_aconst_null X hx hby d_jdk_42_method_3_code_5 (pc' := 6) rfl ?_
  refine own_callI X hx hby hZ (by exact hml) hown rfl (own_w hw 7 rfl) (own_w hw 8 rfl) (own_w hw 3 rfl) (own_w hw 10 rfl) (by decide) eT 0 (by decide) (by decide) (by decide) (by decide) (argsL := [(.ref ca), (.int (0 : Int32)), (.int (1 : Int32)), .null]) (rest := []) (lenOf pd___CIILjava_lang_Void__V rfl) rfl (Nat.le_of_eq rfl) (rmI5_1 l Z a0 hw a ca cs x0 n0 h0 hcs hx0 n0_a Z0 ne_a_ca Scs E F G Vc) d_jdk_42_method_3_code_6 (pc' := 9) rfl ?_
  intro v1 T1 L1 X1 hQ1
  obtain ⟨rfl, Nq1, K1, bb1, sb1, E1, FC1, FV1, V1⟩ := hQ1
  have N1 := Fr.app N0 Nq1
  have Z1 : n0 ≤ T1.heap.size := Nat.le_trans Z0 K1.1
  have KK1 : Keep h0 T1.heap [a] := K0.trans K1 (allS (Or.inl (List.mem_of_getElem? (i := 0) rfl)) all0)
  show GoP p e below Φ (T1.setTop (mkF m 9 #[.val (.ref a), .val (.ref ca)] []))
  exact own_ret0 X1 hx hby fin hret d_jdk_42_method_3_code_9 (by decide) (by decide) ⟨rfl, N1, KK1, bb1, sb1, E1, FC1, FV1, V1⟩
theorem ef_rmC5_2 (m : MethodId) (x0 : Addr) (x1 : Int32) (x2 : Addr) (x3 : Int32) (x4 : Int32) : entryFrame m #[(.ref x0), (.int x1), (.ref x2), (.int x3), (.int x4)] 7 = mkF m 0 #[.val (.ref x0), .val (.int x1), .val (.ref x2), .val (.int x3), .val (.int x4), .unset, .unset] [] := by first | (simp [entryFrame, mkF, argsToLocals, Value.category]; done) | rfl
set_option maxRecDepth 65536 in
set_option maxHeartbeats 40000000 in
theorem rmC5_2 (l : Launch) (Z : State) (a0 : Array Value) (hw : ∀ d ∈ tables_1, d.before a0 Z = true) (a b : Addr) (x0 : Int32) (x1 : Int32) (n0 : Nat) (h0 : Heap) (hx0 : ¬ (255 : Int32) < x0) (hx1 : ¬ (255 : Int32) < x1) (n0_b : n0 ≤ b) (ne_a_b : a ≠ b) (Va : AV Z h0 a .char [(.int x0), (.int x1)]) (Vb : AV Z h0 b .byte [(.int (0 : Int32)), (.int (0 : Int32))]) : Con l Z (⟨"java/lang/StringUTF16", "compress", "([CI[BII)I"⟩ : MethodName) jdk_52_method_21_code 7 (some .int) [] ({ frames := 0, cells := 0, slots := 0, locals := 0 } : Room) #[(.ref a), (.int (0 : Int32)), (.ref b), (.int (0 : Int32)), (.int (2 : Int32))] h0 (fun v h L => v = some (.int (2 : Int32)) ∧ Fr n0 L ∧ Keep h0 h [b] ∧ AV Z h b .byte [(.int (nar .byte (x0.toInt8.toInt32))), (.int (nar .byte (x1.toInt8.toInt32)))]) := by
  refine Con.of (plainFor_of_name pn_java_lang_StringUTF16) ?_
  intro p e s m below meth c T X hx hby hml hown hnm hret eT hZ hsh Φ fin
  replace hown : s.vm.findClass "java/lang/StringUTF16" = some m.cls := hown
  replace hml : 7 = c.maxLocals := hml.symm
  refine own_step (fun t k => castTop (ef_rmC5_2 m a (0 : Int32) b (0 : Int32) (2 : Int32)) k) ?_
  have N0 := Fr.nil n0
  have K0 : Keep h0 h0 [b] := Keep.refl h0 [b]
  refine own_iconst X hx hby d_jdk_52_method_21_code_0 (v := (0 : Int32)) rfl (pc' := 1) rfl ?_
  refine own_istore X hx hby d_jdk_52_method_21_code_1  (Ls' := #[.val (.ref a), .val (.int (0 : Int32)), .val (.ref b), .val (.int (0 : Int32)), .val (.int (2 : Int32)), .val (.int (0 : Int32)), .unset]) rfl (pc' := 3) rfl ?_
  refine own_iload X hx hby d_jdk_52_method_21_code_3 rfl (pc' := 5) rfl ?_
  refine own_iload X hx hby d_jdk_52_method_21_code_5 rfl (pc' := 7) rfl ?_
  refine own_icmpN X hx hby d_jdk_52_method_21_code_7 (tlt (by decide)).2.1 (pc' := 10) rfl ?_
  refine own_aloadN X hx hby d_jdk_52_method_21_code_10 rfl rfl (pc' := 11) rfl ?_
  refine own_iloadN X hx hby d_jdk_52_method_21_code_11 rfl (pc' := 12) rfl ?_
  refine own_caload X hx hby hZ eT Va (by decide) (v := (.int x0)) rfl d_jdk_52_method_21_code_12 (pc' := 13) rfl ?_
  refine own_istore X hx hby d_jdk_52_method_21_code_13  (Ls' := #[.val (.ref a), .val (.int (0 : Int32)), .val (.ref b), .val (.int (0 : Int32)), .val (.int (2 : Int32)), .val (.int (0 : Int32)), .val (.int x0)]) rfl (pc' := 15) rfl ?_
  refine own_iload X hx hby d_jdk_52_method_21_code_15 rfl (pc' := 17) rfl ?_
  refine own_sipush X hx hby d_jdk_52_method_21_code_17 (v := (255 : Int32)) rfl (pc' := 20) rfl ?_
  refine own_icmpY X hx hby d_jdk_52_method_21_code_20 (flt hx0).2.2.2 (by decide) (pc' := 26) (by decide) ?_
  refine own_aloadN X hx hby d_jdk_52_method_21_code_26 rfl rfl (pc' := 27) rfl ?_
  refine own_iloadN X hx hby d_jdk_52_method_21_code_27 rfl (pc' := 28) rfl ?_
  refine own_iload X hx hby d_jdk_52_method_21_code_28 rfl (pc' := 30) rfl ?_
  refine own_i2b X hx hby d_jdk_52_method_21_code_30 (pc' := 31) rfl ?_
  refine own_bastoreB X hx hby hZ eT Vb (by decide) (Nat.le_of_ble_eq_true rfl) d_jdk_52_method_21_code_31 (pc' := 32) rfl ?_
  intro T1 h1 X1 e1 W1 V1
  replace V1 : AV Z h1 b .byte [(.int (nar .byte (x0.toInt8.toInt32))), (.int (0 : Int32))] := V1
  have V2_a := Va.other W1 ne_a_b
  have N1 := Fr.snoc X1 N0 n0_b
  have K1 : Keep h0 h1 [b] := K0.wr W1 (Or.inl (List.mem_of_getElem? (i := 0) rfl))
  refine own_iinc X1 hx hby d_jdk_52_method_21_code_32 rfl (v := (1 : Int32)) rfl (Ls' := #[.val (.ref a), .val (.int (1 : Int32)), .val (.ref b), .val (.int (0 : Int32)), .val (.int (2 : Int32)), .val (.int (0 : Int32)), .val (.int x0)]) rfl (pc' := 35) rfl ?_
  refine own_iinc X1 hx hby d_jdk_52_method_21_code_35 rfl (v := (1 : Int32)) rfl (Ls' := #[.val (.ref a), .val (.int (1 : Int32)), .val (.ref b), .val (.int (1 : Int32)), .val (.int (2 : Int32)), .val (.int (0 : Int32)), .val (.int x0)]) rfl (pc' := 38) rfl ?_
  refine own_iinc X1 hx hby d_jdk_52_method_21_code_38 rfl (v := (1 : Int32)) rfl (Ls' := #[.val (.ref a), .val (.int (1 : Int32)), .val (.ref b), .val (.int (1 : Int32)), .val (.int (2 : Int32)), .val (.int (1 : Int32)), .val (.int x0)]) rfl (pc' := 41) rfl ?_
  refine own_goto X1 hx hby d_jdk_52_method_21_code_41 (by decide) (pc' := 3) (by decide) ?_
  refine own_iload X1 hx hby d_jdk_52_method_21_code_3 rfl (pc' := 5) rfl ?_
  refine own_iload X1 hx hby d_jdk_52_method_21_code_5 rfl (pc' := 7) rfl ?_
  refine own_icmpN X1 hx hby d_jdk_52_method_21_code_7 (tlt (by decide)).2.1 (pc' := 10) rfl ?_
  refine own_aloadN X1 hx hby d_jdk_52_method_21_code_10 rfl rfl (pc' := 11) rfl ?_
  refine own_iloadN X1 hx hby d_jdk_52_method_21_code_11 rfl (pc' := 12) rfl ?_
  refine own_caload X1 hx hby hZ e1 V2_a (by decide) (v := (.int x1)) rfl d_jdk_52_method_21_code_12 (pc' := 13) rfl ?_
  refine own_istore X1 hx hby d_jdk_52_method_21_code_13  (Ls' := #[.val (.ref a), .val (.int (1 : Int32)), .val (.ref b), .val (.int (1 : Int32)), .val (.int (2 : Int32)), .val (.int (1 : Int32)), .val (.int x1)]) rfl (pc' := 15) rfl ?_
  refine own_iload X1 hx hby d_jdk_52_method_21_code_15 rfl (pc' := 17) rfl ?_
  refine own_sipush X1 hx hby d_jdk_52_method_21_code_17 (v := (255 : Int32)) rfl (pc' := 20) rfl ?_
  refine own_icmpY X1 hx hby d_jdk_52_method_21_code_20 (flt hx1).2.2.2 (by decide) (pc' := 26) (by decide) ?_
  refine own_aloadN X1 hx hby d_jdk_52_method_21_code_26 rfl rfl (pc' := 27) rfl ?_
  refine own_iloadN X1 hx hby d_jdk_52_method_21_code_27 rfl (pc' := 28) rfl ?_
  refine own_iload X1 hx hby d_jdk_52_method_21_code_28 rfl (pc' := 30) rfl ?_
  refine own_i2b X1 hx hby d_jdk_52_method_21_code_30 (pc' := 31) rfl ?_
  refine own_bastoreB X1 hx hby hZ e1 V1 (by decide) (Nat.le_of_ble_eq_true rfl) d_jdk_52_method_21_code_31 (pc' := 32) rfl ?_
  intro T4 h4 X4 e4 W4 V4
  replace V4 : AV Z h4 b .byte [(.int (nar .byte (x0.toInt8.toInt32))), (.int (nar .byte (x1.toInt8.toInt32)))] := V4
  have V5_a := V2_a.other W4 ne_a_b
  have N4 := Fr.snoc X4 N1 n0_b
  have K4 : Keep h0 h4 [b] := K1.wr W4 (Or.inl (List.mem_of_getElem? (i := 0) rfl))
  refine own_iinc X4 hx hby d_jdk_52_method_21_code_32 rfl (v := (1 : Int32)) rfl (Ls' := #[.val (.ref a), .val (.int (2 : Int32)), .val (.ref b), .val (.int (1 : Int32)), .val (.int (2 : Int32)), .val (.int (1 : Int32)), .val (.int x1)]) rfl (pc' := 35) rfl ?_
  refine own_iinc X4 hx hby d_jdk_52_method_21_code_35 rfl (v := (1 : Int32)) rfl (Ls' := #[.val (.ref a), .val (.int (2 : Int32)), .val (.ref b), .val (.int (2 : Int32)), .val (.int (2 : Int32)), .val (.int (1 : Int32)), .val (.int x1)]) rfl (pc' := 38) rfl ?_
  refine own_iinc X4 hx hby d_jdk_52_method_21_code_38 rfl (v := (1 : Int32)) rfl (Ls' := #[.val (.ref a), .val (.int (2 : Int32)), .val (.ref b), .val (.int (2 : Int32)), .val (.int (2 : Int32)), .val (.int (2 : Int32)), .val (.int x1)]) rfl (pc' := 41) rfl ?_
  refine own_goto X4 hx hby d_jdk_52_method_21_code_41 (by decide) (pc' := 3) (by decide) ?_
  refine own_iload X4 hx hby d_jdk_52_method_21_code_3 rfl (pc' := 5) rfl ?_
  refine own_iload X4 hx hby d_jdk_52_method_21_code_5 rfl (pc' := 7) rfl ?_
  refine own_icmpY X4 hx hby d_jdk_52_method_21_code_7 (flt (by decide)).2.1 (by decide) (pc' := 44) (by decide) ?_
  refine own_iload X4 hx hby d_jdk_52_method_21_code_44 rfl (pc' := 46) rfl ?_
  exact own_retI X4 hx hby fin hret d_jdk_52_method_21_code_46 (by decide) (by decide) (by rw [e4]; exact ⟨rfl, N4, K4, V4⟩)
theorem ef_rmC3_2 (m : MethodId) (x0 : Addr) (x1 : Int32) (x2 : Int32) : entryFrame m #[(.ref x0), (.int x1), (.int x2)] 6 = mkF m 0 #[.val (.ref x0), .val (.int x1), .val (.int x2), .unset, .unset, .unset] [] := by first | (simp [entryFrame, mkF, argsToLocals, Value.category]; done) | rfl
set_option maxRecDepth 65536 in
set_option maxHeartbeats 40000000 in
theorem rmC3_2 (l : Launch) (Z : State) (a0 : Array Value) (hw : ∀ d ∈ tables_1, d.before a0 Z = true) (a : Addr) (x0 : Int32) (x1 : Int32) (n0 : Nat) (h0 : Heap) (hx0 : ¬ (255 : Int32) < x0) (hx1 : ¬ (255 : Int32) < x1) (Z0 : n0 ≤ h0.size) (Va : AV Z h0 a .char [(.int x0), (.int x1)]) : Con l Z (⟨"java/lang/StringUTF16", "compress", "([CII)[B"⟩ : MethodName) jdk_52_method_16_code 6 (some (.array .byte)) [] ({ frames := 1, cells := 1, slots := 2, locals := 20 } : Room) #[(.ref a), (.int (0 : Int32)), (.int (2 : Int32))] h0 (fun v h L => ∃ b : Addr, v = some (.ref b) ∧ Fr n0 L ∧ Keep h0 h [] ∧ h0.size ≤ b ∧ AV Z h b .byte [(.int (nar .byte (x0.toInt8.toInt32))), (.int (nar .byte (x1.toInt8.toInt32)))]) := by
  refine Con.of (plainFor_of_name pn_java_lang_StringUTF16) ?_
  intro p e s m below meth c T X hx hby hml hown hnm hret eT hZ hsh Φ fin
  replace hown : s.vm.findClass "java/lang/StringUTF16" = some m.cls := hown
  replace hml : 6 = c.maxLocals := hml.symm
  refine own_step (fun t k => castTop (ef_rmC3_2 m a (0 : Int32) (2 : Int32)) k) ?_
  have N0 := Fr.nil n0
  have K0 : Keep h0 h0 [] := Keep.refl h0 []
  refine own_iloadN X hx hby d_jdk_52_method_16_code_0 rfl (pc' := 1) rfl ?_
  obtain ⟨T1, h1, k1, X1, e1, E1, A1, st1⟩ := newP X hx hZ (own_w hw 15 rfl) eT (g := (mkF m 1 #[.val (.ref a), .val (.int (0 : Int32)), .val (.int (2 : Int32)), .unset, .unset, .unset] [(.int (2 : Int32))])) rfl (hb hby d_jdk_52_method_16_code_1) rfl (by decide) (cap := 2) (by decide) (by decide) (by decide) (by decide)
  obtain ⟨b1, g1⟩ : ∃ z, z = h0.size := ⟨_, rfl⟩
  have ne_a_b1 : a ≠ b1 := Nat.ne_of_lt (g1 ▸ Va.lt)
  have V2_a := Va.ext E1
  have Z1 : n0 ≤ h1.size := Nat.le_trans Z0 E1.1
  have n0_b1 : n0 ≤ b1 := g1 ▸ Z0
  have sz_b1 : h0.size ≤ b1 := g1 ▸ K0.1
  have K1 : Keep h0 h1 [] := K0.ext E1
  rw [← g1] at A1 st1
  refine own_step st1 ?_
  have V1 : AV Z h1 b1 .byte [(.int (0 : Int32)), (.int (0 : Int32))] := AV.new A1 (by decide)
  show GoP p e below Φ (T1.setTop (mkF m 3 #[.val (.ref a), .val (.int (0 : Int32)), .val (.int (2 : Int32)), .unset, .unset, .unset] [(.ref b1)]))
  refine own_astoreN X1 hx hby d_jdk_52_method_16_code_3 rfl (Ls' := #[.val (.ref a), .val (.int (0 : Int32)), .val (.int (2 : Int32)), .val (.ref b1), .unset, .unset]) rfl (pc' := 4) rfl ?_
  refine own_aloadN X1 hx hby d_jdk_52_method_16_code_4 rfl rfl (pc' := 5) rfl ?_
  refine own_iloadN X1 hx hby d_jdk_52_method_16_code_5 rfl (pc' := 6) rfl ?_
  refine own_aloadN X1 hx hby d_jdk_52_method_16_code_6 rfl rfl (pc' := 7) rfl ?_
  refine own_iconst X1 hx hby d_jdk_52_method_16_code_7 (v := (0 : Int32)) rfl (pc' := 8) rfl ?_
  refine own_iloadN X1 hx hby d_jdk_52_method_16_code_8 rfl (pc' := 9) rfl ?_
  refine own_callS X1 hx hby hZ (by exact hml) hown (own_w hw 82 rfl) (own_w hw 83 rfl) (own_w hw 80 rfl) (own_w hw 84 rfl) (by decide) e1 0 (by decide) (by decide) (by decide) (by decide) (argsL := [(.ref a), (.int (0 : Int32)), (.ref b1), (.int (0 : Int32)), (.int (2 : Int32))]) (rest := []) (lenOf pd___CI_BII_I rfl) rfl (rmC5_2 l Z a0 hw a b1 x0 x1 n0 h1 hx0 hx1 n0_b1 ne_a_b1 V2_a V1) (Nat.le_of_eq rfl) d_jdk_52_method_16_code_9 (pc' := 12) rfl ?_
  intro v3 T3 L3 X3 hQ3
  obtain ⟨rfl, Nq3, K3, V3⟩ := hQ3
  have V4_a := V2_a.keep K3 (ninS ne_a_b1 nin0)
  have N3 := Fr.app N0 Nq3
  have Z3 : n0 ≤ T3.heap.size := Nat.le_trans Z1 K3.1
  have KK3 : Keep h0 T3.heap [] := K1.trans K3 (allS (Or.inr sz_b1) all0)
  show GoP p e below Φ (T3.setTop (mkF m 12 #[.val (.ref a), .val (.int (0 : Int32)), .val (.int (2 : Int32)), .val (.ref b1), .unset, .unset] [(.int (2 : Int32))]))
  refine own_istore X3 hx hby d_jdk_52_method_16_code_12  (Ls' := #[.val (.ref a), .val (.int (0 : Int32)), .val (.int (2 : Int32)), .val (.ref b1), .val (.int (2 : Int32)), .unset]) rfl (pc' := 14) rfl ?_
  refine own_iload X3 hx hby d_jdk_52_method_16_code_14 rfl (pc' := 16) rfl ?_
  refine own_iloadN X3 hx hby d_jdk_52_method_16_code_16 rfl (pc' := 17) rfl ?_
  refine own_icmpY X3 hx hby d_jdk_52_method_16_code_17 (teq (by decide)).1 (by decide) (pc' := 57) (by decide) ?_
  refine own_aloadN X3 hx hby d_jdk_52_method_16_code_57 rfl rfl (pc' := 58) rfl ?_
  exact own_retA X3 hx hby fin hret rfl rfl rfl d_jdk_52_method_16_code_58 (by decide) (by decide) ⟨b1, rfl, N3, KK3, sz_b1, V3⟩
theorem ef_rmCF_2 (m : MethodId) (x0 : Addr) (x1 : Int32) : entryFrame m #[(.ref x0), (.int x1)] 2 = mkF m 0 #[.val (.ref x0), .val (.int x1)] [] := by first | (simp [entryFrame, mkF, argsToLocals, Value.category]; done) | rfl
set_option maxRecDepth 65536 in
set_option maxHeartbeats 40000000 in
theorem rmCF_2 (l : Launch) (Z : State) (a0 : Array Value) (hw : ∀ d ∈ tables_1, d.before a0 Z = true) (b : Addr) (x0 : Int32) (x1 : Int32) (h0 : Heap) (V : AV Z h0 b .byte [(.int x0), (.int x1)]) : Con l Z (⟨"java/lang/StringUTF16", "coderFromArrayLen", "([BI)B"⟩ : MethodName) jdk_52_method_15_code 2 (some .byte) [] ({ frames := 0, cells := 0, slots := 0, locals := 0 } : Room) #[(.ref b), (.int (2 : Int32))] h0 (fun v h L => v = some (.int (0 : Int32)) ∧ L = [] ∧ h = h0) := by
  refine Con.of (plainFor_of_name pn_java_lang_StringUTF16) ?_
  intro p e s m below meth c T X hx hby hml hown hnm hret eT hZ hsh Φ fin
  replace hown : s.vm.findClass "java/lang/StringUTF16" = some m.cls := hown
  replace hml : 2 = c.maxLocals := hml.symm
  refine own_step (fun t k => castTop (ef_rmCF_2 m b (2 : Int32)) k) ?_
  refine own_iloadN X hx hby d_jdk_52_method_15_code_0 rfl (pc' := 1) rfl ?_
  refine own_aloadN X hx hby d_jdk_52_method_15_code_1 rfl rfl (pc' := 2) rfl ?_
  refine own_alen X hx hby hZ eT (n := (2 : Int32)) V rfl d_jdk_52_method_15_code_2 (pc' := 3) rfl ?_
  refine own_isub X hx hby d_jdk_52_method_15_code_3 (pc' := 4) rfl ?_
  show GoP p e below Φ (T.setTop (mkF m 4 #[.val (.ref b), .val (.int (2 : Int32))] [(.int (0 : Int32))]))
  refine own_bipush X hx hby d_jdk_52_method_15_code_4 (v := (31 : Int32)) rfl (pc' := 6) rfl ?_
  refine own_iushr X hx hby d_jdk_52_method_15_code_6 (pc' := 7) rfl ?_
  show GoP p e below Φ (T.setTop (mkF m 7 #[.val (.ref b), .val (.int (2 : Int32))] [(.int (0 : Int32))]))
  refine own_i2b X hx hby d_jdk_52_method_15_code_7 (pc' := 8) rfl ?_
  show GoP p e below Φ (T.setTop (mkF m 8 #[.val (.ref b), .val (.int (2 : Int32))] [(.int (0 : Int32))]))
  exact own_retN X hx hby fin hret (by simp) rfl d_jdk_52_method_15_code_8 (by decide) (by decide) ⟨rfl, rfl, eT⟩
theorem ef_rmI5_2 (m : MethodId) (x0 : Addr) (x1 : Addr) (x2 : Int32) (x3 : Int32) : entryFrame m #[(.ref x0), (.ref x1), (.int x2), (.int x3), .null] 6 = mkF m 0 #[.val (.ref x0), .val (.ref x1), .val (.int x2), .val (.int x3), .val .null, .unset] [] := by first | (simp [entryFrame, mkF, argsToLocals, Value.category]; done) | rfl
set_option maxRecDepth 65536 in
set_option maxHeartbeats 40000000 in
theorem rmI5_2 (l : Launch) (Z : State) (a0 : Array Value) (hw : ∀ d ∈ tables_1, d.before a0 Z = true) (a ca : Addr) (cs : Int32) (x0 : Int32) (x1 : Int32) (n0 : Nat) (h0 : Heap) (hcs : ¬ cs = (0 : Int32)) (hx0 : ¬ (255 : Int32) < x0) (hx1 : ¬ (255 : Int32) < x1) (n0_a : n0 ≤ a) (Z0 : n0 ≤ h0.size) (ne_a_ca : a ≠ ca) (Scs : Sta Z h0 "java/lang/String" "COMPACT_STRINGS" "Z" (.int cs)) (E : Exa Z h0 a "java/lang/String") (F : Fld Z h0 a "java/lang/String" "coder" "B" (.int (0 : Int32))) (G : Fld Z h0 a "java/lang/String" "value" "[B" .null) (Vc : AV Z h0 ca .char [(.int x0), (.int x1)]) : Con l Z (⟨"java/lang/String", "<init>", "([CIILjava/lang/Void;)V"⟩ : MethodName) jdk_42_method_149_code 6 none [] ({ frames := 2, cells := 1, slots := 2, locals := 40 } : Room) #[(.ref a), (.ref ca), (.int (0 : Int32)), (.int (2 : Int32)), .null] h0 (fun v h L => v = none ∧ Fr n0 L ∧ Keep h0 h [a] ∧ ∃ b : Addr, h0.size ≤ b ∧ Exa Z h a "java/lang/String" ∧ Fld Z h a "java/lang/String" "coder" "B" (.int (0 : Int32)) ∧ Fld Z h a "java/lang/String" "value" "[B" (.ref b) ∧ AV Z h b .byte [(.int (nar .byte (x0.toInt8.toInt32))), (.int (nar .byte (x1.toInt8.toInt32)))]) := by
  refine Con.of (plainFor_of_name pn_java_lang_String) ?_
  intro p e s m below meth c T X hx hby hml hown hnm hret eT hZ hsh Φ fin
  replace hown : s.vm.findClass "java/lang/String" = some m.cls := hown
  replace hml : 6 = c.maxLocals := hml.symm
  refine own_step (fun t k => castTop (ef_rmI5_2 m a ca (0 : Int32) (2 : Int32)) k) ?_
  have N0 := Fr.nil n0
  have K0 : Keep h0 h0 [a] := Keep.refl h0 [a]
  refine own_aloadN X hx hby d_jdk_42_method_149_code_0 rfl rfl (pc' := 1) rfl ?_
  obtain ⟨T1, X1, e1, st1⟩ := initO X hx hZ hown (own_w hw 11 rfl) (own_w hw 12 rfl) (own_w hw 13 rfl) eT (g := (mkF m 1 #[.val (.ref a), .val (.ref ca), .val (.int (0 : Int32)), .val (.int (2 : Int32)), .val .null, .unset] [(.ref a)])) rfl hml rfl (hb hby d_jdk_42_method_149_code_1) (by decide) (W := 0) (by show 2 * 0 + _ ≤ _; exact Nat.le_of_eq rfl) (by decide)
  refine own_step st1 ?_
  show GoP p e below Φ (T1.setTop (mkF m 4 #[.val (.ref a), .val (.ref ca), .val (.int (0 : Int32)), .val (.int (2 : Int32)), .val .null, .unset] []))
  refine own_iloadN X1 hx hby d_jdk_42_method_149_code_4 rfl (pc' := 5) rfl ?_
  refine own_ifY X1 hx hby d_jdk_42_method_149_code_5 ((if0 _ _).trans (feq (by decide)).2) (by decide) (pc' := 27) (by decide) ?_
  obtain ⟨T2, X2, e2, st2⟩ := getS2 X1 hx hZ hown (host := "") (Or.inl (own_w hw 25 rfl)) Via.refl e1 Scs (g := (mkF m 27 #[.val (.ref a), .val (.ref ca), .val (.int (0 : Int32)), .val (.int (2 : Int32)), .val .null, .unset] [])) rfl (hb hby d_jdk_42_method_149_code_27)
  refine own_step st2 ?_
  show GoP p e below Φ (T2.setTop (mkF m 30 #[.val (.ref a), .val (.ref ca), .val (.int (0 : Int32)), .val (.int (2 : Int32)), .val .null, .unset] [(.int cs)]))
  refine own_ifN X2 hx hby d_jdk_42_method_149_code_30 ((if0 _ _).trans (feq hcs).1) (pc' := 33) rfl ?_
  refine own_aloadN X2 hx hby d_jdk_42_method_149_code_33 rfl rfl (pc' := 34) rfl ?_
  refine own_iloadN X2 hx hby d_jdk_42_method_149_code_34 rfl (pc' := 35) rfl ?_
  refine own_iloadN X2 hx hby d_jdk_42_method_149_code_35 rfl (pc' := 36) rfl ?_
  refine own_callS X2 hx hby hZ (by exact hml) hown (own_w hw 78 rfl) (own_w hw 79 rfl) (own_w hw 80 rfl) (own_w hw 81 rfl) (by decide) e2 0 (by decide) (by decide) (by decide) (by decide) (argsL := [(.ref ca), (.int (0 : Int32)), (.int (2 : Int32))]) (rest := []) (lenOf pd___CII__B rfl) rfl (rmC3_2 l Z a0 hw ca x0 x1 n0 h0 hx0 hx1 Z0 Vc) (Nat.le_of_eq rfl) d_jdk_42_method_149_code_36 (pc' := 39) rfl ?_
  intro v3 T3 L3 X3 hQ3
  obtain ⟨bb3, rfl, Nq3, K3, sb3, V3⟩ := hQ3
  have ne_a_bb3 : a ≠ bb3 := Nat.ne_of_lt (Nat.lt_of_lt_of_le E.lt sb3)
  have szb : h0.size ≤ bb3 := Nat.le_trans K0.1 sb3
  have E4_a := E.keep K3
  have F5_coder := F.keep K3 nin0
  have F6_value := G.keep K3 nin0
  have N3 := Fr.app N0 Nq3
  have Z3 : n0 ≤ T3.heap.size := Nat.le_trans Z0 K3.1
  have KK3 : Keep h0 T3.heap [a] := K0.trans K3 all0
  show GoP p e below Φ (T3.setTop (mkF m 39 #[.val (.ref a), .val (.ref ca), .val (.int (0 : Int32)), .val (.int (2 : Int32)), .val .null, .unset] [(.ref bb3)]))
  refine own_astore X3 hx hby d_jdk_42_method_149_code_39 rfl (Ls' := #[.val (.ref a), .val (.ref ca), .val (.int (0 : Int32)), .val (.int (2 : Int32)), .val .null, .val (.ref bb3)]) rfl (pc' := 41) rfl ?_
  refine own_aloadN X3 hx hby d_jdk_42_method_149_code_41 rfl rfl (pc' := 42) rfl ?_
  refine own_aload X3 hx hby d_jdk_42_method_149_code_42 rfl rfl (pc' := 44) rfl ?_
  refine own_iloadN X3 hx hby d_jdk_42_method_149_code_44 rfl (pc' := 45) rfl ?_
  refine own_callS X3 hx hby hZ (by exact hml) hown (own_w hw 85 rfl) (own_w hw 86 rfl) (own_w hw 80 rfl) (own_w hw 87 rfl) (by decide) rfl 1 (by decide) (by decide) (by decide) (by decide) (argsL := [(.ref bb3), (.int (2 : Int32))]) (rest := [(.ref a)]) (lenOf pd___BI_B rfl) rfl (rmCF_2 l Z a0 hw bb3 (nar .byte (x0.toInt8.toInt32)) (nar .byte (x1.toInt8.toInt32)) T3.heap V3) (Nat.le_of_eq rfl) d_jdk_42_method_149_code_45 (pc' := 48) rfl ?_
  intro v7 T7 L7 X7 hQ7
  obtain ⟨rfl, rfl, e7⟩ := hQ7
  rw [List.append_nil] at X7
  replace e7 : T7.heap = T3.heap := e7
  show GoP p e below Φ (T7.setTop (mkF m 48 #[.val (.ref a), .val (.ref ca), .val (.int (0 : Int32)), .val (.int (2 : Int32)), .val .null, .val (.ref bb3)] [(.int (0 : Int32)), (.ref a)]))
  obtain ⟨T8, h8, X8, e8, W8, st8⟩ := putFN X7 hx hZ hown (own_w hw 21 rfl) Via.refl e7 F5_coder E4_a (Or.inr ⟨(own_w hw 17 rfl), rfl, hnm⟩) (own_w hw 2 rfl) (ty := .byte) (v' := (.int (0 : Int32))) (by decide) rfl (by decide) (g := (mkF m 48 #[.val (.ref a), .val (.ref ca), .val (.int (0 : Int32)), .val (.int (2 : Int32)), .val .null, .val (.ref bb3)] [(.int (0 : Int32)), (.ref a)])) rfl rfl (hb hby d_jdk_42_method_149_code_48)
  refine own_step st8 ?_
  have E9_a := E4_a.wr W8
  have F10_coder := F5_coder.same W8
  have F11_value := F6_value.other W8 (Or.inr (slot_ne (Or.inr (own_w hw 16 rfl)) (Or.inr (own_w hw 17 rfl)) (by decide) (t := (.array .byte)) (t' := .byte) (by decide) (by decide)))
  have V12_bb3 := V3.other W8 (Ne.symm ne_a_bb3)
  have Z8 : n0 ≤ h8.size := by rw [W8.size]; exact Z3
  have N8 := Fr.snoc X8 N3 n0_a
  have K8 : Keep h0 h8 [a] := KK3.wr W8 (Or.inl (List.mem_of_getElem? (i := 0) rfl))
  show GoP p e below Φ (T8.setTop (mkF m 51 #[.val (.ref a), .val (.ref ca), .val (.int (0 : Int32)), .val (.int (2 : Int32)), .val .null, .val (.ref bb3)] []))
  refine own_aloadN X8 hx hby d_jdk_42_method_149_code_51 rfl rfl (pc' := 52) rfl ?_
  refine own_aload X8 hx hby d_jdk_42_method_149_code_52 rfl rfl (pc' := 54) rfl ?_
  obtain ⟨T13, h13, X13, e13, W13, st13⟩ := putF X8 hx hZ hown (host := "") (Or.inl (own_w hw 20 rfl)) Via.refl e8 F11_value E9_a (Or.inr ⟨(own_w hw 16 rfl), rfl, hnm⟩) (own_w hw 2 rfl) (ty := (.array .byte)) (by decide) rfl rfl (g := (mkF m 54 #[.val (.ref a), .val (.ref ca), .val (.int (0 : Int32)), .val (.int (2 : Int32)), .val .null, .val (.ref bb3)] [(.ref bb3), (.ref a)])) rfl rfl (hb hby d_jdk_42_method_149_code_54)
  refine own_step st13 ?_
  have E14_a := E9_a.wr W13
  have F15_coder := F10_coder.other W13 (Or.inr (slot_ne (Or.inr (own_w hw 17 rfl)) (Or.inr (own_w hw 16 rfl)) (by decide) (t := .byte) (t' := (.array .byte)) (by decide) (by decide)))
  have F16_value := F11_value.same W13
  have V17_bb3 := V12_bb3.other W13 (Ne.symm ne_a_bb3)
  have Z13 : n0 ≤ h13.size := by rw [W13.size]; exact Z8
  have N13 := Fr.snoc X13 N8 n0_a
  have K13 : Keep h0 h13 [a] := K8.wr W13 (Or.inl (List.mem_of_getElem? (i := 0) rfl))
  show GoP p e below Φ (T13.setTop (mkF m 57 #[.val (.ref a), .val (.ref ca), .val (.int (0 : Int32)), .val (.int (2 : Int32)), .val .null, .val (.ref bb3)] []))
  exact own_ret0 X13 hx hby fin hret d_jdk_42_method_149_code_57 (by decide) (by decide) (by rw [e13]; exact ⟨rfl, N13, K13, bb3, szb, E14_a, F15_coder, F16_value, V17_bb3⟩)
theorem ef_rmI1_2 (m : MethodId) (x0 : Addr) (x1 : Addr) : entryFrame m #[(.ref x0), (.ref x1)] 2 = mkF m 0 #[.val (.ref x0), .val (.ref x1)] [] := by first | (simp [entryFrame, mkF, argsToLocals, Value.category]; done) | rfl
set_option maxRecDepth 65536 in
set_option maxHeartbeats 40000000 in
theorem rmI1_2 (l : Launch) (Z : State) (a0 : Array Value) (hw : ∀ d ∈ tables_1, d.before a0 Z = true) (a ca : Addr) (cs : Int32) (x0 : Int32) (x1 : Int32) (n0 : Nat) (h0 : Heap) (hcs : ¬ cs = (0 : Int32)) (hx0 : ¬ (255 : Int32) < x0) (hx1 : ¬ (255 : Int32) < x1) (n0_a : n0 ≤ a) (Z0 : n0 ≤ h0.size) (ne_a_ca : a ≠ ca) (Scs : Sta Z h0 "java/lang/String" "COMPACT_STRINGS" "Z" (.int cs)) (E : Exa Z h0 a "java/lang/String") (F : Fld Z h0 a "java/lang/String" "coder" "B" (.int (0 : Int32))) (G : Fld Z h0 a "java/lang/String" "value" "[B" .null) (Vc : AV Z h0 ca .char [(.int x0), (.int x1)]) : Con l Z (⟨"java/lang/String", "<init>", "([C)V"⟩ : MethodName) jdk_42_method_3_code 2 none [] ({ frames := 3, cells := 1, slots := 2, locals := 60 } : Room) #[(.ref a), (.ref ca)] h0 (fun v h L => v = none ∧ Fr n0 L ∧ Keep h0 h [a] ∧ ∃ b : Addr, h0.size ≤ b ∧ Exa Z h a "java/lang/String" ∧ Fld Z h a "java/lang/String" "coder" "B" (.int (0 : Int32)) ∧ Fld Z h a "java/lang/String" "value" "[B" (.ref b) ∧ AV Z h b .byte [(.int (nar .byte (x0.toInt8.toInt32))), (.int (nar .byte (x1.toInt8.toInt32)))]) := by
  refine Con.of (plainFor_of_name pn_java_lang_String) ?_
  intro p e s m below meth c T X hx hby hml hown hnm hret eT hZ hsh Φ fin
  replace hown : s.vm.findClass "java/lang/String" = some m.cls := hown
  replace hml : 2 = c.maxLocals := hml.symm
  refine own_step (fun t k => castTop (ef_rmI1_2 m a ca) k) ?_
  have N0 := Fr.nil n0
  have K0 : Keep h0 h0 [a] := Keep.refl h0 [a]
  refine own_aloadN X hx hby d_jdk_42_method_3_code_0 rfl rfl (pc' := 1) rfl ?_
  refine own_aloadN X hx hby d_jdk_42_method_3_code_1 rfl rfl (pc' := 2) rfl ?_
  refine own_iconst X hx hby d_jdk_42_method_3_code_2 (v := (0 : Int32)) rfl (pc' := 3) rfl ?_
  refine own_aloadN X hx hby d_jdk_42_method_3_code_3 rfl rfl (pc' := 4) rfl ?_
  refine own_alen X hx hby hZ eT (n := (2 : Int32)) Vc rfl d_jdk_42_method_3_code_4 (pc' := 5) rfl ?_
  refine own_aconst_null X hx hby d_jdk_42_method_3_code_5 (pc' := 6) rfl ?_
  refine own_callI X hx hby hZ (by exact hml) hown rfl (own_w hw 7 rfl) (own_w hw 8 rfl) (own_w hw 3 rfl) (own_w hw 10 rfl) (by decide) eT 0 (by decide) (by decide) (by decide) (by decide) (argsL := [(.ref ca), (.int (0 : Int32)), (.int (2 : Int32)), .null]) (rest := []) (lenOf pd___CIILjava_lang_Void__V rfl) rfl (Nat.le_of_eq rfl) (rmI5_2 l Z a0 hw a ca cs x0 x1 n0 h0 hcs hx0 hx1 n0_a Z0 ne_a_ca Scs E F G Vc) d_jdk_42_method_3_code_6 (pc' := 9) rfl ?_
  intro v1 T1 L1 X1 hQ1
  obtain ⟨rfl, Nq1, K1, bb1, sb1, E1, FC1, FV1, V1⟩ := hQ1
  have N1 := Fr.app N0 Nq1
  have Z1 : n0 ≤ T1.heap.size := Nat.le_trans Z0 K1.1
  have KK1 : Keep h0 T1.heap [a] := K0.trans K1 (allS (Or.inl (List.mem_of_getElem? (i := 0) rfl)) all0)
  show GoP p e below Φ (T1.setTop (mkF m 9 #[.val (.ref a), .val (.ref ca)] []))
  exact own_ret0 X1 hx hby fin hret d_jdk_42_method_3_code_9 (by decide) (by decide) ⟨rfl, N1, KK1, bb1, sb1, E1, FC1, FV1, V1⟩
theorem ef_rmI5_0 (m : MethodId) (x0 : Addr) (x1 : Addr) (x2 : Int32) (x3 : Int32) : entryFrame m #[(.ref x0), (.ref x1), (.int x2), (.int x3), .null] 6 = mkF m 0 #[.val (.ref x0), .val (.ref x1), .val (.int x2), .val (.int x3), .val .null, .unset] [] := by first | (simp [entryFrame, mkF, argsToLocals, Value.category]; done) | rfl
theorem d_jdk_42_method_149_code_8 : decode jdk_42_method_149_code 8 = .ok (.aload_n 0, 1) := by decide +kernel
theorem d_jdk_42_method_149_code_9 : decode jdk_42_method_149_code 9 = .ok (.ldc 7, 2) := by decide +kernel
theorem d_jdk_42_method_149_code_11 : decode jdk_42_method_149_code 11 = .ok (.getfield 9, 3) := by decide +kernel
theorem d_jdk_42_method_149_code_14 : decode jdk_42_method_149_code 14 = .ok (.putfield 9, 3) := by decide +kernel
theorem d_jdk_42_method_149_code_17 : decode jdk_42_method_149_code 17 = .ok (.aload_n 0, 1) := by decide +kernel
theorem d_jdk_42_method_149_code_18 : decode jdk_42_method_149_code 18 = .ok (.ldc 7, 2) := by decide +kernel
theorem d_jdk_42_method_149_code_20 : decode jdk_42_method_149_code 20 = .ok (.getfield 15, 3) := by decide +kernel
theorem d_jdk_42_method_149_code_23 : decode jdk_42_method_149_code 23 = .ok (.putfield 15, 3) := by decide +kernel
theorem d_jdk_42_method_149_code_26 : decode jdk_42_method_149_code 26 = .ok (.return_, 1) := by decide +kernel
set_option maxRecDepth 65536 in
set_option maxHeartbeats 40000000 in
theorem rmI5_0 (l : Launch) (Z : State) (a0 : Array Value) (hw : ∀ d ∈ tables_1, d.before a0 Z = true) (a ca : Addr) (n0 : Nat) (h0 : Heap) (n0_a : n0 ≤ a) (Z0 : n0 ≤ h0.size) (hO : Ext Z.heap h0) (hh : Jvm.Lit.constHeld Z "java/lang/String" 7) (hcw : Jvm.Lit.compactW.before a0 Z = true) (E : Exa Z h0 a "java/lang/String") (F : Fld Z h0 a "java/lang/String" "coder" "B" (.int (0 : Int32))) (G : Fld Z h0 a "java/lang/String" "value" "[B" .null) : ConX l Z (⟨"java/lang/String", "<init>", "([CIILjava/lang/Void;)V"⟩ : MethodName) jdk_42_method_149_code 6 none [] ({ frames := 1, cells := 2, slots := 4, locals := 20 } : Room) #[(.ref a), (.ref ca), (.int (0 : Int32)), (.int (0 : Int32)), .null] h0 (LitS Z "java/lang/String" 7 [] [] h0) (fun v h vm L => v = none ∧ Fr n0 L ∧ Keep h0 h [a] ∧ LitL Z "java/lang/String" 7 [] h vm ∧ ∃ b : Addr, Exa Z h a "java/lang/String" ∧ Fld Z h a "java/lang/String" "coder" "B" (.int (0 : Int32)) ∧ Fld Z h a "java/lang/String" "value" "[B" (.ref b) ∧ AV Z h b .byte []) := by
  refine ConX.of (plainFor_of_name pn_java_lang_String) ?_
  intro p e s m below meth c T vm0 k0 X hx hby hml hown hnm hret eT hZ hsh hS hk hPv Φ fin
  replace hown : vm0.findClass "java/lang/String" = some m.cls := hown
  replace hml : 6 = c.maxLocals := hml.symm
  refine own_step (fun t k => castTop (ef_rmI5_0 m a ca (0 : Int32) (0 : Int32)) k) ?_
  have N0 := Fr.nil n0
  have K0 : Keep h0 h0 [a] := Keep.refl h0 [a]
  refine own_aloadN X hx hby d_jdk_42_method_149_code_0 rfl rfl (pc' := 1) rfl ?_
  obtain ⟨T1, X1, e1, st1⟩ := initO X hx hZ hown (own_w hw 11 rfl) (own_w hw 12 rfl) (own_w hw 13 rfl) eT (g := (mkF m 1 #[.val (.ref a), .val (.ref ca), .val (.int (0 : Int32)), .val (.int (0 : Int32)), .val .null, .unset] [(.ref a)])) rfl hml rfl (hb hby d_jdk_42_method_149_code_1) (by decide) (W := 0) (by show 2 * 0 + _ ≤ _; exact Nat.le_of_eq rfl) (by decide)
  refine own_step st1 ?_
  show GoP p e below Φ (T1.setTop (mkF m 4 #[.val (.ref a), .val (.ref ca), .val (.int (0 : Int32)), .val (.int (0 : Int32)), .val .null, .unset] []))
  refine own_iloadN X1 hx hby d_jdk_42_method_149_code_4 rfl (pc' := 5) rfl ?_
  refine own_ifN X1 hx hby d_jdk_42_method_149_code_5 ((if0 _ _).trans (teq (by decide)).2) (pc' := 8) rfl ?_
  refine own_aloadN X1 hx hby d_jdk_42_method_149_code_8 rfl rfl (pc' := 9) rfl ?_
  refine own_ldcE X1 hx hby hZ hown (own_w hw 14 rfl) (own_strs hw) e1 hS hk (Fr.nil _) (hsh.symm ▸ hO) hh hcw (bs := []) (z := 0) ⟨(by decide), rfl⟩ (by decide) rfl (Ts := []) (by simp) hPv d_jdk_42_method_149_code_9 0 (by decide) (by decide) (by decide) (by decide) (pc' := 11) rfl ?_
  clear hS hk hZ hown hPv
  intro aL bL T2 h2 vm2 k2 X2 e2 E2 hS hk hZ hown LL EL CL VL BL
  have E3_a := E.ext E2
  have F4_coder := F.ext E2
  have F5_value := G.ext E2
  have ne_a_aL : a ≠ aL := Fld.ne F5_value VL (by simp)
  have ne_a_bL : a ≠ bL := own_ne_av E3_a (own_w hw 2 rfl) BL
  have K2 : Keep h0 h2 [a] := K0.ext E2
  have Z2 : n0 ≤ h2.size := Nat.le_trans Z0 E2.1
  show GoP p e below Φ (T2.setTop (mkF m 11 #[.val (.ref a), .val (.ref ca), .val (.int (0 : Int32)), .val (.int (0 : Int32)), .val .null, .unset] [(.ref aL), (.ref a)]))
  obtain ⟨T6, X6, e6, st6⟩ := getF X2 hx hZ hown (host := "") (Or.inl (own_w hw 20 rfl)) Via.refl e2 VL (g := (mkF m 11 #[.val (.ref a), .val (.ref ca), .val (.int (0 : Int32)), .val (.int (0 : Int32)), .val .null, .unset] [(.ref aL), (.ref a)])) rfl rfl (hb hby d_jdk_42_method_149_code_11)
  refine own_step st6 ?_
  show GoP p e below Φ (T6.setTop (mkF m 14 #[.val (.ref a), .val (.ref ca), .val (.int (0 : Int32)), .val (.int (0 : Int32)), .val .null, .unset] [(.ref bL), (.ref a)]))
  obtain ⟨T7, h7, X7, e7, W7, st7⟩ := putF X6 hx hZ hown (host := "") (Or.inl (own_w hw 20 rfl)) Via.refl e6 F5_value E3_a (Or.inr ⟨(own_w hw 16 rfl), rfl, hnm⟩) (own_w hw 2 rfl) (ty := (.array .byte)) (by decide) rfl rfl (g := (mkF m 14 #[.val (.ref a), .val (.ref ca), .val (.int (0 : Int32)), .val (.int (0 : Int32)), .val .null, .unset] [(.ref bL), (.ref a)])) rfl rfl (hb hby d_jdk_42_method_149_code_14)
  refine own_step st7 ?_
  have E8_a := E3_a.wr W7
  have F9_coder := F4_coder.other W7 (Or.inr (slot_ne (Or.inr (own_w hw 17 rfl)) (Or.inr (own_w hw 16 rfl)) (by decide) (t := .byte) (t' := (.array .byte)) (by decide) (by decide)))
  have F10_value := F5_value.same W7
  have E11_aL := EL.wr W7
  have F12_coder := CL.other W7 (Or.inl (Ne.symm ne_a_aL))
  have F13_value := VL.other W7 (Or.inl (Ne.symm ne_a_aL))
  have V14_bL := BL.other W7 (Ne.symm ne_a_bL)
  replace hk := W7.size.symm ▸ hk
  have Z7 : n0 ≤ h7.size := by rw [W7.size]; exact Z2
  have N7 := Fr.snoc X7 N0 n0_a
  have K7 : Keep h0 h7 [a] := K2.wr W7 (Or.inl (List.mem_of_getElem? (i := 0) rfl))
  show GoP p e below Φ (T7.setTop (mkF m 17 #[.val (.ref a), .val (.ref ca), .val (.int (0 : Int32)), .val (.int (0 : Int32)), .val .null, .unset] []))
  refine own_aloadN X7 hx hby d_jdk_42_method_149_code_17 rfl rfl (pc' := 18) rfl ?_
  refine own_ldcA X7 hx hby hZ hown (own_w hw 14 rfl) LL d_jdk_42_method_149_code_18 (pc' := 20) rfl ?_
  obtain ⟨T15, X15, e15, st15⟩ := getF X7 hx hZ hown (host := "") (Or.inl (own_w hw 21 rfl)) Via.refl e7 F12_coder (g := (mkF m 20 #[.val (.ref a), .val (.ref ca), .val (.int (0 : Int32)), .val (.int (0 : Int32)), .val .null, .unset] [(.ref aL), (.ref a)])) rfl rfl (hb hby d_jdk_42_method_149_code_20)
  refine own_step st15 ?_
  show GoP p e below Φ (T15.setTop (mkF m 23 #[.val (.ref a), .val (.ref ca), .val (.int (0 : Int32)), .val (.int (0 : Int32)), .val .null, .unset] [(.int (0 : Int32)), (.ref a)]))
  obtain ⟨T16, h16, X16, e16, W16, st16⟩ := putFN X15 hx hZ hown (own_w hw 21 rfl) Via.refl e15 F9_coder E8_a (Or.inr ⟨(own_w hw 17 rfl), rfl, hnm⟩) (own_w hw 2 rfl) (ty := .byte) (v' := (.int (0 : Int32))) (by decide) rfl (by decide) (g := (mkF m 23 #[.val (.ref a), .val (.ref ca), .val (.int (0 : Int32)), .val (.int (0 : Int32)), .val .null, .unset] [(.int (0 : Int32)), (.ref a)])) rfl rfl (hb hby d_jdk_42_method_149_code_23)
  refine own_step st16 ?_
  have E17_a := E8_a.wr W16
  have F18_coder := F9_coder.same W16
  have F19_value := F10_value.other W16 (Or.inr (slot_ne (Or.inr (own_w hw 16 rfl)) (Or.inr (own_w hw 17 rfl)) (by decide) (t := (.array .byte)) (t' := .byte) (by decide) (by decide)))
  have E20_aL := E11_aL.wr W16
  have F21_coder := F12_coder.other W16 (Or.inl (Ne.symm ne_a_aL))
  have F22_value := F13_value.other W16 (Or.inl (Ne.symm ne_a_aL))
  have V23_bL := V14_bL.other W16 (Ne.symm ne_a_bL)
  replace hk := W16.size.symm ▸ hk
  have Z16 : n0 ≤ h16.size := by rw [W16.size]; exact Z7
  have N16 := Fr.snoc X16 N7 n0_a
  have K16 : Keep h0 h16 [a] := K7.wr W16 (Or.inl (List.mem_of_getElem? (i := 0) rfl))
  show GoP p e below Φ (T16.setTop (mkF m 26 #[.val (.ref a), .val (.ref ca), .val (.int (0 : Int32)), .val (.int (0 : Int32)), .val .null, .unset] []))
  exact own_ret0 X16 hx hby (fin _ _ hS) hret d_jdk_42_method_149_code_26 (by decide) (by decide) ⟨(by rw [e16]; exact ⟨rfl, N16, K16, ⟨aL, bL, own_litmove (s := s) LL X16.warmed, E20_aL, F21_coder, F22_value, V23_bL⟩, bL, E17_a, F18_coder, F19_value, V23_bL⟩), (by rw [e16]; exact hk)⟩
theorem ef_rmI1_0 (m : MethodId) (x0 : Addr) (x1 : Addr) : entryFrame m #[(.ref x0), (.ref x1)] 2 = mkF m 0 #[.val (.ref x0), .val (.ref x1)] [] := by first | (simp [entryFrame, mkF, argsToLocals, Value.category]; done) | rfl
set_option maxRecDepth 65536 in
set_option maxHeartbeats 40000000 in
theorem rmI1_0 (l : Launch) (Z : State) (a0 : Array Value) (hw : ∀ d ∈ tables_1, d.before a0 Z = true) (a ca : Addr) (n0 : Nat) (h0 : Heap) (n0_a : n0 ≤ a) (Z0 : n0 ≤ h0.size) (hO : Ext Z.heap h0) (hh : Jvm.Lit.constHeld Z "java/lang/String" 7) (hcw : Jvm.Lit.compactW.before a0 Z = true) (E : Exa Z h0 a "java/lang/String") (F : Fld Z h0 a "java/lang/String" "coder" "B" (.int (0 : Int32))) (G : Fld Z h0 a "java/lang/String" "value" "[B" .null) (Vc : AV Z h0 ca .char []) : ConX l Z (⟨"java/lang/String", "<init>", "([C)V"⟩ : MethodName) jdk_42_method_3_code 2 none [] ({ frames := 2, cells := 2, slots := 4, locals := 40 } : Room) #[(.ref a), (.ref ca)] h0 (LitS Z "java/lang/String" 7 [] [] h0) (fun v h vm L => v = none ∧ Fr n0 L ∧ Keep h0 h [a] ∧ LitL Z "java/lang/String" 7 [] h vm ∧ ∃ b : Addr, Exa Z h a "java/lang/String" ∧ Fld Z h a "java/lang/String" "coder" "B" (.int (0 : Int32)) ∧ Fld Z h a "java/lang/String" "value" "[B" (.ref b) ∧ AV Z h b .byte []) := by
  refine ConX.of (plainFor_of_name pn_java_lang_String) ?_
  intro p e s m below meth c T vm0 k0 X hx hby hml hown hnm hret eT hZ hsh hS hk hPv Φ fin
  replace hown : vm0.findClass "java/lang/String" = some m.cls := hown
  replace hml : 2 = c.maxLocals := hml.symm
  refine own_step (fun t k => castTop (ef_rmI1_0 m a ca) k) ?_
  have N0 := Fr.nil n0
  have K0 : Keep h0 h0 [a] := Keep.refl h0 [a]
  refine own_aloadN X hx hby d_jdk_42_method_3_code_0 rfl rfl (pc' := 1) rfl ?_
  refine own_aloadN X hx hby d_jdk_42_method_3_code_1 rfl rfl (pc' := 2) rfl ?_
  refine own_iconst X hx hby d_jdk_42_method_3_code_2 (v := (0 : Int32)) rfl (pc' := 3) rfl ?_
  refine own_aloadN X hx hby d_jdk_42_method_3_code_3 rfl rfl (pc' := 4) rfl ?_
  refine own_alen X hx hby hZ eT (n := (0 : Int32)) Vc rfl d_jdk_42_method_3_code_4 (pc' := 5) rfl ?_
  refine own_aconst_null X hx hby d_jdk_42_method_3_code_5 (pc' := 6) rfl ?_
  refine own_callIX X hx hby hZ (by exact hml) hown rfl (own_w hw 7 rfl) (own_w hw 8 rfl) (own_w hw 3 rfl) (own_w hw 10 rfl) (by decide) eT 0 (by decide) (by decide) (by decide) (by decide) (argsL := [(.ref ca), (.int (0 : Int32)), (.int (0 : Int32)), .null]) (rest := []) (lenOf pd___CIILjava_lang_Void__V rfl) rfl (Nat.le_of_eq rfl) (rmI5_0 l Z a0 hw a ca n0 h0 n0_a Z0 hO hh hcw E F G) d_jdk_42_method_3_code_6 (pc' := 9) rfl hS hk own_litS_stays hPv ?_
  clear hS hk hZ hown
  intro v1 T1 L1 X1 hS hk hZ hown hge1 hQ1
  obtain ⟨rfl, Nq1, K1, LL1, bb1, E1, FC1, FV1, V1⟩ := hQ1
  have N1 := Fr.app N0 Nq1
  have KK1 : Keep h0 T1.heap [a] := K0.trans K1 (allS (Or.inl (List.mem_of_getElem? (i := 0) rfl)) all0)
  show GoP p e below Φ (T1.setTop (mkF m 9 #[.val (.ref a), .val (.ref ca)] []))
  exact own_ret0 X1 hx hby (fin _ _ hS) hret d_jdk_42_method_3_code_9 (by decide) (by decide) ⟨⟨rfl, N1, KK1, own_litL_stays (s := s) _ _ X1.warmed LL1, bb1, E1, FC1, FV1, V1⟩, hk⟩
theorem ef_rmLE_0 (m : MethodId) (x0 : Addr) (x1 : Addr) : entryFrame m #[(.ref x0), (.ref x1)] 3 = mkF m 0 #[.val (.ref x0), .val (.ref x1), .unset] [] := by first | (simp [entryFrame, mkF, argsToLocals, Value.category]; done) | rfl
theorem pn_java_lang_StringLatin1 : plainName "java/lang/StringLatin1" = true := by first | (simp [plainName, overriddenIn]; done) | decide +kernel
theorem d_jdk_43_method_13_code_0 : decode jdk_43_method_13_code 0 = .ok (.aload_n 0, 1) := by decide +kernel
theorem d_jdk_43_method_13_code_1 : decode jdk_43_method_13_code 1 = .ok (.arraylength, 1) := by decide +kernel
theorem d_jdk_43_method_13_code_2 : decode jdk_43_method_13_code 2 = .ok (.aload_n 1, 1) := by decide +kernel
theorem d_jdk_43_method_13_code_3 : decode jdk_43_method_13_code 3 = .ok (.arraylength, 1) := by decide +kernel
theorem d_jdk_43_method_13_code_4 : decode jdk_43_method_13_code 4 = .ok (.if_icmp .ne 30, 3) := by decide +kernel
theorem d_jdk_43_method_13_code_7 : decode jdk_43_method_13_code 7 = .ok (.iconst 0, 1) := by decide +kernel
theorem d_jdk_43_method_13_code_8 : decode jdk_43_method_13_code 8 = .ok (.istore_n 2, 1) := by decide +kernel
theorem d_jdk_43_method_13_code_9 : decode jdk_43_method_13_code 9 = .ok (.iload_n 2, 1) := by decide +kernel
theorem d_jdk_43_method_13_code_10 : decode jdk_43_method_13_code 10 = .ok (.aload_n 0, 1) := by decide +kernel
theorem d_jdk_43_method_13_code_11 : decode jdk_43_method_13_code 11 = .ok (.arraylength, 1) := by decide +kernel
theorem d_jdk_43_method_13_code_12 : decode jdk_43_method_13_code 12 = .ok (.if_icmp .ge 20, 3) := by decide +kernel
theorem d_jdk_43_method_13_code_32 : decode jdk_43_method_13_code 32 = .ok (.iconst 1, 1) := by decide +kernel
theorem d_jdk_43_method_13_code_33 : decode jdk_43_method_13_code 33 = .ok (.ireturn, 1) := by decide +kernel
set_option maxRecDepth 65536 in
set_option maxHeartbeats 40000000 in
theorem rmLE_0 (l : Launch) (Z : State) (a0 : Array Value) (hw : ∀ d ∈ tables_1, d.before a0 Z = true) (b1 b2 : Addr)  (h0 : Heap) (V1 : AV Z h0 b1 .byte []) (V2 : AV Z h0 b2 .byte []) : Con l Z (⟨"java/lang/StringLatin1", "equals", "([B[B)Z"⟩ : MethodName) jdk_43_method_13_code 3 (some .boolean) [] ({ frames := 0, cells := 0, slots := 0, locals := 0 } : Room) #[(.ref b1), (.ref b2)] h0 (fun v h L => v = some (.int (1 : Int32)) ∧ L = [] ∧ h = h0) := by
  refine Con.of (plainFor_of_name pn_java_lang_StringLatin1) ?_
  intro p e s m below meth c T X hx hby hml hown hnm hret eT hZ hsh Φ fin
  replace hown : s.vm.findClass "java/lang/StringLatin1" = some m.cls := hown
  replace hml : 3 = c.maxLocals := hml.symm
  refine own_step (fun t k => castTop (ef_rmLE_0 m b1 b2) k) ?_
  refine own_aloadN X hx hby d_jdk_43_method_13_code_0 rfl rfl (pc' := 1) rfl ?_
  refine own_alen X hx hby hZ eT (n := (0 : Int32)) V1 rfl d_jdk_43_method_13_code_1 (pc' := 2) rfl ?_
  refine own_aloadN X hx hby d_jdk_43_method_13_code_2 rfl rfl (pc' := 3) rfl ?_
  refine own_alen X hx hby hZ eT (n := (0 : Int32)) V2 rfl d_jdk_43_method_13_code_3 (pc' := 4) rfl ?_
  refine own_icmpN X hx hby d_jdk_43_method_13_code_4 (teq (by decide)).2 (pc' := 7) rfl ?_
  refine own_iconst X hx hby d_jdk_43_method_13_code_7 (v := (0 : Int32)) rfl (pc' := 8) rfl ?_
  refine own_istoreN X hx hby d_jdk_43_method_13_code_8  (Ls' := #[.val (.ref b1), .val (.ref b2), .val (.int (0 : Int32))]) rfl (pc' := 9) rfl ?_
  refine own_iloadN X hx hby d_jdk_43_method_13_code_9 rfl (pc' := 10) rfl ?_
  refine own_aloadN X hx hby d_jdk_43_method_13_code_10 rfl rfl (pc' := 11) rfl ?_
  refine own_alen X hx hby hZ eT (n := (0 : Int32)) V1 rfl d_jdk_43_method_13_code_11 (pc' := 12) rfl ?_
  refine own_icmpY X hx hby d_jdk_43_method_13_code_12 (flt (by decide)).2.1 (by decide) (pc' := 32) (by decide) ?_
  refine own_iconst X hx hby d_jdk_43_method_13_code_32 (v := (1 : Int32)) rfl (pc' := 33) rfl ?_
  exact own_retN X hx hby fin hret (by simp) rfl d_jdk_43_method_13_code_33 (by decide) (by decide) ⟨rfl, rfl, eT⟩
theorem ef_rmEq_0 (m : MethodId) (x0 : Addr) (x1 : Addr) : entryFrame m #[(.ref x0), (.ref x1)] 3 = mkF m 0 #[.val (.ref x0), .val (.ref x1), .unset] [] := by first | (simp [entryFrame, mkF, argsToLocals, Value.category]; done) | rfl
theorem d_jdk_42_method_66_code_0 : decode jdk_42_method_66_code 0 = .ok (.aload_n 0, 1) := by decide +kernel
theorem d_jdk_42_method_66_code_1 : decode jdk_42_method_66_code 1 = .ok (.aload_n 1, 1) := by decide +kernel
theorem d_jdk_42_method_66_code_2 : decode jdk_42_method_66_code 2 = .ok (.if_acmp .ne 5, 3) := by decide +kernel
theorem d_jdk_42_method_66_code_7 : decode jdk_42_method_66_code 7 = .ok (.aload_n 1, 1) := by decide +kernel
theorem d_jdk_42_method_66_code_8 : decode jdk_42_method_66_code 8 = .ok (.instanceof 10, 3) := by decide +kernel
theorem d_jdk_42_method_66_code_11 : decode jdk_42_method_66_code 11 = .ok (.ifCond .eq 43, 3) := by decide +kernel
theorem d_jdk_42_method_66_code_14 : decode jdk_42_method_66_code 14 = .ok (.aload_n 1, 1) := by decide +kernel
theorem d_jdk_42_method_66_code_15 : decode jdk_42_method_66_code 15 = .ok (.checkcast 10, 3) := by decide +kernel
theorem d_jdk_42_method_66_code_18 : decode jdk_42_method_66_code 18 = .ok (.astore_n 2, 1) := by decide +kernel
theorem d_jdk_42_method_66_code_19 : decode jdk_42_method_66_code 19 = .ok (.getstatic 38, 3) := by decide +kernel
theorem d_jdk_42_method_66_code_22 : decode jdk_42_method_66_code 22 = .ok (.ifCond .eq 14, 3) := by decide +kernel
theorem d_jdk_42_method_66_code_25 : decode jdk_42_method_66_code 25 = .ok (.aload_n 0, 1) := by decide +kernel
theorem d_jdk_42_method_66_code_26 : decode jdk_42_method_66_code 26 = .ok (.getfield 15, 3) := by decide +kernel
theorem d_jdk_42_method_66_code_29 : decode jdk_42_method_66_code 29 = .ok (.aload_n 2, 1) := by decide +kernel
theorem d_jdk_42_method_66_code_30 : decode jdk_42_method_66_code 30 = .ok (.getfield 15, 3) := by decide +kernel
theorem d_jdk_42_method_66_code_33 : decode jdk_42_method_66_code 33 = .ok (.if_icmp .ne 21, 3) := by decide +kernel
theorem d_jdk_42_method_66_code_36 : decode jdk_42_method_66_code 36 = .ok (.aload_n 0, 1) := by decide +kernel
theorem d_jdk_42_method_66_code_37 : decode jdk_42_method_66_code 37 = .ok (.getfield 9, 3) := by decide +kernel
theorem d_jdk_42_method_66_code_40 : decode jdk_42_method_66_code 40 = .ok (.aload_n 2, 1) := by decide +kernel
theorem d_jdk_42_method_66_code_41 : decode jdk_42_method_66_code 41 = .ok (.getfield 9, 3) := by decide +kernel
theorem d_jdk_42_method_66_code_44 : decode jdk_42_method_66_code 44 = .ok (.invokestatic 541, 3) := by decide +kernel
theorem pd___B_B_Z : parseMethodDescriptor "([B[B)Z" = some ⟨[(.array .byte), (.array .byte)], some .boolean⟩ := by decide +kernel
theorem d_jdk_42_method_66_code_47 : decode jdk_42_method_66_code 47 = .ok (.ifCond .eq 7, 3) := by decide +kernel
theorem d_jdk_42_method_66_code_50 : decode jdk_42_method_66_code 50 = .ok (.iconst 1, 1) := by decide +kernel
theorem d_jdk_42_method_66_code_51 : decode jdk_42_method_66_code 51 = .ok (.goto 4, 3) := by decide +kernel
theorem d_jdk_42_method_66_code_55 : decode jdk_42_method_66_code 55 = .ok (.ireturn, 1) := by decide +kernel
set_option maxRecDepth 65536 in
set_option maxHeartbeats 40000000 in
theorem rmEq_0 (l : Launch) (Z : State) (a0 : Array Value) (hw : ∀ d ∈ tables_1, d.before a0 Z = true) (a1 a2 b1 b2 : Addr) (cs : Int32)  (h0 : Heap) (hcs : ¬ cs = (0 : Int32)) (ne12 : a1 ≠ a2) (Scs : Sta Z h0 "java/lang/String" "COMPACT_STRINGS" "Z" (.int cs)) (E1 : Exa Z h0 a1 "java/lang/String") (F1 : Fld Z h0 a1 "java/lang/String" "coder" "B" (.int (0 : Int32))) (G1 : Fld Z h0 a1 "java/lang/String" "value" "[B" (.ref b1)) (V1 : AV Z h0 b1 .byte []) (E2 : Exa Z h0 a2 "java/lang/String") (F2 : Fld Z h0 a2 "java/lang/String" "coder" "B" (.int (0 : Int32))) (G2 : Fld Z h0 a2 "java/lang/String" "value" "[B" (.ref b2)) (V2 : AV Z h0 b2 .byte []) : Con l Z (⟨"java/lang/String", "equals", "(Ljava/lang/Object;)Z"⟩ : MethodName) jdk_42_method_66_code 3 (some .boolean) [] ({ frames := 1, cells := 0, slots := 0, locals := 20 } : Room) #[(.ref a1), (.ref a2)] h0 (fun v h L => v = some (.int (1 : Int32)) ∧ L = [] ∧ h = h0) := by
  refine Con.of (plainFor_of_name pn_java_lang_String) ?_
  intro p e s m below meth c T X hx hby hml hown hnm hret eT hZ hsh Φ fin
  replace hown : s.vm.findClass "java/lang/String" = some m.cls := hown
  replace hml : 3 = c.maxLocals := hml.symm
  refine own_step (fun t k => castTop (ef_rmEq_0 m a1 a2) k) ?_
  refine own_aloadN X hx hby d_jdk_42_method_66_code_0 rfl rfl (pc' := 1) rfl ?_
  refine own_aloadN X hx hby d_jdk_42_method_66_code_1 rfl rfl (pc' := 2) rfl ?_
  refine own_acmp X hx hby d_jdk_42_method_66_code_2 rfl rfl (same := false) (decide_eq_false (fun q => ne12 (Value.ref.inj q))) (by decide) (pc' := 7) (by decide) ?_
  refine own_aloadN X hx hby d_jdk_42_method_66_code_7 rfl rfl (pc' := 8) rfl ?_
  obtain ⟨T1, X1, e1, st1⟩ := instY X hx hZ hown (own_w hw 30 rfl) eT (Ins.self E2) (g := (mkF m 8 #[.val (.ref a1), .val (.ref a2), .unset] [(.ref a2)])) rfl rfl (hb hby d_jdk_42_method_66_code_8)
  refine own_step st1 ?_
  show GoP p e below Φ (T1.setTop (mkF m 11 #[.val (.ref a1), .val (.ref a2), .unset] [(.int (1 : Int32))]))
  refine own_ifN X1 hx hby d_jdk_42_method_66_code_11 ((if0 _ _).trans (feq (by decide)).1) (pc' := 14) rfl ?_
  refine own_aloadN X1 hx hby d_jdk_42_method_66_code_14 rfl rfl (pc' := 15) rfl ?_
  obtain ⟨T2, X2, e2, st2⟩ := castY X1 hx hZ hown (own_w hw 30 rfl) e1 (Ins.self E2) (g := (mkF m 15 #[.val (.ref a1), .val (.ref a2), .unset] [(.ref a2)])) rfl rfl (hb hby d_jdk_42_method_66_code_15)
  refine own_step st2 ?_
  show GoP p e below Φ (T2.setTop (mkF m 18 #[.val (.ref a1), .val (.ref a2), .unset] [(.ref a2)]))
  refine own_astoreN X2 hx hby d_jdk_42_method_66_code_18 rfl (Ls' := #[.val (.ref a1), .val (.ref a2), .val (.ref a2)]) rfl (pc' := 19) rfl ?_
  obtain ⟨T3, X3, e3, st3⟩ := getS2 X2 hx hZ hown (host := "") (Or.inl (own_w hw 25 rfl)) Via.refl e2 Scs (g := (mkF m 19 #[.val (.ref a1), .val (.ref a2), .val (.ref a2)] [])) rfl (hb hby d_jdk_42_method_66_code_19)
  refine own_step st3 ?_
  show GoP p e below Φ (T3.setTop (mkF m 22 #[.val (.ref a1), .val (.ref a2), .val (.ref a2)] [(.int cs)]))
  refine own_ifN X3 hx hby d_jdk_42_method_66_code_22 ((if0 _ _).trans (feq hcs).1) (pc' := 25) rfl ?_
  refine own_aloadN X3 hx hby d_jdk_42_method_66_code_25 rfl rfl (pc' := 26) rfl ?_
  obtain ⟨T4, X4, e4, st4⟩ := getF X3 hx hZ hown (host := "") (Or.inl (own_w hw 21 rfl)) Via.refl e3 F1 (g := (mkF m 26 #[.val (.ref a1), .val (.ref a2), .val (.ref a2)] [(.ref a1)])) rfl rfl (hb hby d_jdk_42_method_66_code_26)
  refine own_step st4 ?_
  show GoP p e below Φ (T4.setTop (mkF m 29 #[.val (.ref a1), .val (.ref a2), .val (.ref a2)] [(.int (0 : Int32))]))
  refine own_aloadN X4 hx hby d_jdk_42_method_66_code_29 rfl rfl (pc' := 30) rfl ?_
  obtain ⟨T5, X5, e5, st5⟩ := getF X4 hx hZ hown (host := "") (Or.inl (own_w hw 21 rfl)) Via.refl e4 F2 (g := (mkF m 30 #[.val (.ref a1), .val (.ref a2), .val (.ref a2)] [(.ref a2), (.int (0 : Int32))])) rfl rfl (hb hby d_jdk_42_method_66_code_30)
  refine own_step st5 ?_
  show GoP p e below Φ (T5.setTop (mkF m 33 #[.val (.ref a1), .val (.ref a2), .val (.ref a2)] [(.int (0 : Int32)), (.int (0 : Int32))]))
  refine own_icmpN X5 hx hby d_jdk_42_method_66_code_33 (teq (by decide)).2 (pc' := 36) rfl ?_
  refine own_aloadN X5 hx hby d_jdk_42_method_66_code_36 rfl rfl (pc' := 37) rfl ?_
  obtain ⟨T6, X6, e6, st6⟩ := getF X5 hx hZ hown (host := "") (Or.inl (own_w hw 20 rfl)) Via.refl e5 G1 (g := (mkF m 37 #[.val (.ref a1), .val (.ref a2), .val (.ref a2)] [(.ref a1)])) rfl rfl (hb hby d_jdk_42_method_66_code_37)
  refine own_step st6 ?_
  show GoP p e below Φ (T6.setTop (mkF m 40 #[.val (.ref a1), .val (.ref a2), .val (.ref a2)] [(.ref b1)]))
  refine own_aloadN X6 hx hby d_jdk_42_method_66_code_40 rfl rfl (pc' := 41) rfl ?_
  obtain ⟨T7, X7, e7, st7⟩ := getF X6 hx hZ hown (host := "") (Or.inl (own_w hw 20 rfl)) Via.refl e6 G2 (g := (mkF m 41 #[.val (.ref a1), .val (.ref a2), .val (.ref a2)] [(.ref a2), (.ref b1)])) rfl rfl (hb hby d_jdk_42_method_66_code_41)
  refine own_step st7 ?_
  show GoP p e below Φ (T7.setTop (mkF m 44 #[.val (.ref a1), .val (.ref a2), .val (.ref a2)] [(.ref b2), (.ref b1)]))
  refine own_callS X7 hx hby hZ (by exact hml) hown (own_w hw 75 rfl) (own_w hw 76 rfl) (own_w hw 28 rfl) (own_w hw 77 rfl) (by decide) e7 0 (by decide) (by decide) (by decide) (by decide) (argsL := [(.ref b1), (.ref b2)]) (rest := []) (lenOf pd___B_B_Z rfl) rfl (rmLE_0 l Z a0 hw b1 b2  h0 V1 V2) (Nat.le_of_eq rfl) d_jdk_42_method_66_code_44 (pc' := 47) rfl ?_
  intro v8 T8 L8 X8 hQ8
  obtain ⟨rfl, rfl, e8⟩ := hQ8
  rw [List.append_nil] at X8
  replace e8 : T8.heap = h0 := e8
  show GoP p e below Φ (T8.setTop (mkF m 47 #[.val (.ref a1), .val (.ref a2), .val (.ref a2)] [(.int (1 : Int32))]))
  refine own_ifN X8 hx hby d_jdk_42_method_66_code_47 ((if0 _ _).trans (feq (by decide)).1) (pc' := 50) rfl ?_
  refine own_iconst X8 hx hby d_jdk_42_method_66_code_50 (v := (1 : Int32)) rfl (pc' := 51) rfl ?_
  refine own_goto X8 hx hby d_jdk_42_method_66_code_51 (by decide) (pc' := 55) (by decide) ?_
  exact own_retN X8 hx hby fin hret (by simp) rfl d_jdk_42_method_66_code_55 (by decide) (by decide) ⟨rfl, rfl, e8⟩
theorem ef_rmLE_1 (m : MethodId) (x0 : Addr) (x1 : Addr) : entryFrame m #[(.ref x0), (.ref x1)] 3 = mkF m 0 #[.val (.ref x0), .val (.ref x1), .unset] [] := by first | (simp [entryFrame, mkF, argsToLocals, Value.category]; done) | rfl
theorem d_jdk_43_method_13_code_15 : decode jdk_43_method_13_code 15 = .ok (.aload_n 0, 1) := by decide +kernel
theorem d_jdk_43_method_13_code_16 : decode jdk_43_method_13_code 16 = .ok (.iload_n 2, 1) := by decide +kernel
theorem d_jdk_43_method_13_code_17 : decode jdk_43_method_13_code 17 = .ok (.baload, 1) := by decide +kernel
theorem d_jdk_43_method_13_code_18 : decode jdk_43_method_13_code 18 = .ok (.aload_n 1, 1) := by decide +kernel
theorem d_jdk_43_method_13_code_19 : decode jdk_43_method_13_code 19 = .ok (.iload_n 2, 1) := by decide +kernel
theorem d_jdk_43_method_13_code_20 : decode jdk_43_method_13_code 20 = .ok (.baload, 1) := by decide +kernel
theorem d_jdk_43_method_13_code_21 : decode jdk_43_method_13_code 21 = .ok (.if_icmp .eq 5, 3) := by decide +kernel
theorem d_jdk_43_method_13_code_26 : decode jdk_43_method_13_code 26 = .ok (.iinc 2 1, 3) := by decide +kernel
theorem d_jdk_43_method_13_code_29 : decode jdk_43_method_13_code 29 = .ok (.goto (-20), 3) := by decide +kernel
set_option maxRecDepth 65536 in
set_option maxHeartbeats 40000000 in
theorem rmLE_1 (l : Launch) (Z : State) (a0 : Array Value) (hw : ∀ d ∈ tables_1, d.before a0 Z = true) (b1 b2 : Addr) (x0 : Int32) (h0 : Heap) (V1 : AV Z h0 b1 .byte [(.int x0)]) (V2 : AV Z h0 b2 .byte [(.int x0)]) : Con l Z (⟨"java/lang/StringLatin1", "equals", "([B[B)Z"⟩ : MethodName) jdk_43_method_13_code 3 (some .boolean) [] ({ frames := 0, cells := 0, slots := 0, locals := 0 } : Room) #[(.ref b1), (.ref b2)] h0 (fun v h L => v = some (.int (1 : Int32)) ∧ L = [] ∧ h = h0) := by
  refine Con.of (plainFor_of_name pn_java_lang_StringLatin1) ?_
  intro p e s m below meth c T X hx hby hml hown hnm hret eT hZ hsh Φ fin
  replace hown : s.vm.findClass "java/lang/StringLatin1" = some m.cls := hown
  replace hml : 3 = c.maxLocals := hml.symm
  refine own_step (fun t k => castTop (ef_rmLE_1 m b1 b2) k) ?_
  refine own_aloadN X hx hby d_jdk_43_method_13_code_0 rfl rfl (pc' := 1) rfl ?_
  refine own_alen X hx hby hZ eT (n := (1 : Int32)) V1 rfl d_jdk_43_method_13_code_1 (pc' := 2) rfl ?_
  refine own_aloadN X hx hby d_jdk_43_method_13_code_2 rfl rfl (pc' := 3) rfl ?_
  refine own_alen X hx hby hZ eT (n := (1 : Int32)) V2 rfl d_jdk_43_method_13_code_3 (pc' := 4) rfl ?_
  refine own_icmpN X hx hby d_jdk_43_method_13_code_4 (teq (by decide)).2 (pc' := 7) rfl ?_
  refine own_iconst X hx hby d_jdk_43_method_13_code_7 (v := (0 : Int32)) rfl (pc' := 8) rfl ?_
  refine own_istoreN X hx hby d_jdk_43_method_13_code_8  (Ls' := #[.val (.ref b1), .val (.ref b2), .val (.int (0 : Int32))]) rfl (pc' := 9) rfl ?_
  refine own_iloadN X hx hby d_jdk_43_method_13_code_9 rfl (pc' := 10) rfl ?_
  refine own_aloadN X hx hby d_jdk_43_method_13_code_10 rfl rfl (pc' := 11) rfl ?_
  refine own_alen X hx hby hZ eT (n := (1 : Int32)) V1 rfl d_jdk_43_method_13_code_11 (pc' := 12) rfl ?_
  refine own_icmpN X hx hby d_jdk_43_method_13_code_12 (tlt (by decide)).2.1 (pc' := 15) rfl ?_
  refine own_aloadN X hx hby d_jdk_43_method_13_code_15 rfl rfl (pc' := 16) rfl ?_
  refine own_iloadN X hx hby d_jdk_43_method_13_code_16 rfl (pc' := 17) rfl ?_
  refine own_baload X hx hby hZ eT V1 (by decide) (v := (.int x0)) rfl d_jdk_43_method_13_code_17 (pc' := 18) rfl ?_
  refine own_aloadN X hx hby d_jdk_43_method_13_code_18 rfl rfl (pc' := 19) rfl ?_
  refine own_iloadN X hx hby d_jdk_43_method_13_code_19 rfl (pc' := 20) rfl ?_
  refine own_baload X hx hby hZ eT V2 (by decide) (v := (.int x0)) rfl d_jdk_43_method_13_code_20 (pc' := 21) rfl ?_
  refine own_icmpY X hx hby d_jdk_43_method_13_code_21 (teq rfl).1 (by decide) (pc' := 26) (by decide) ?_
  refine own_iinc X hx hby d_jdk_43_method_13_code_26 rfl (v := (1 : Int32)) rfl (Ls' := #[.val (.ref b1), .val (.ref b2), .val (.int (1 : Int32))]) rfl (pc' := 29) rfl ?_
  refine own_goto X hx hby d_jdk_43_method_13_code_29 (by decide) (pc' := 9) (by decide) ?_
  refine own_iloadN X hx hby d_jdk_43_method_13_code_9 rfl (pc' := 10) rfl ?_
  refine own_aloadN X hx hby d_jdk_43_method_13_code_10 rfl rfl (pc' := 11) rfl ?_
  refine own_alen X hx hby hZ eT (n := (1 : Int32)) V1 rfl d_jdk_43_method_13_code_11 (pc' := 12) rfl ?_
  refine own_icmpY X hx hby d_jdk_43_method_13_code_12 (flt (by decide)).2.1 (by decide) (pc' := 32) (by decide) ?_
  refine own_iconst X hx hby d_jdk_43_method_13_code_32 (v := (1 : Int32)) rfl (pc' := 33) rfl ?_
  exact own_retN X hx hby fin hret (by simp) rfl d_jdk_43_method_13_code_33 (by decide) (by decide) ⟨rfl, rfl, eT⟩
theorem ef_rmEq_1 (m : MethodId) (x0 : Addr) (x1 : Addr) : entryFrame m #[(.ref x0), (.ref x1)] 3 = mkF m 0 #[.val (.ref x0), .val (.ref x1), .unset] [] := by first | (simp [entryFrame, mkF, argsToLocals, Value.category]; done) | rfl
set_option maxRecDepth 65536 in
set_option maxHeartbeats 40000000 in
theorem rmEq_1 (l : Launch) (Z : State) (a0 : Array Value) (hw : ∀ d ∈ tables_1, d.before a0 Z = true) (a1 a2 b1 b2 : Addr) (cs : Int32) (x0 : Int32) (h0 : Heap) (hcs : ¬ cs = (0 : Int32)) (ne12 : a1 ≠ a2) (Scs : Sta Z h0 "java/lang/String" "COMPACT_STRINGS" "Z" (.int cs)) (E1 : Exa Z h0 a1 "java/lang/String") (F1 : Fld Z h0 a1 "java/lang/String" "coder" "B" (.int (0 : Int32))) (G1 : Fld Z h0 a1 "java/lang/String" "value" "[B" (.ref b1)) (V1 : AV Z h0 b1 .byte [(.int x0)]) (E2 : Exa Z h0 a2 "java/lang/String") (F2 : Fld Z h0 a2 "java/lang/String" "coder" "B" (.int (0 : Int32))) (G2 : Fld Z h0 a2 "java/lang/String" "value" "[B" (.ref b2)) (V2 : AV Z h0 b2 .byte [(.int x0)]) : Con l Z (⟨"java/lang/String", "equals", "(Ljava/lang/Object;)Z"⟩ : MethodName) jdk_42_method_66_code 3 (some .boolean) [] ({ frames := 1, cells := 0, slots := 0, locals := 20 } : Room) #[(.ref a1), (.ref a2)] h0 (fun v h L => v = some (.int (1 : Int32)) ∧ L = [] ∧ h = h0) := by
  refine Con.of (plainFor_of_name pn_java_lang_String) ?_
  intro p e s m below meth c T X hx hby hml hown hnm hret eT hZ hsh Φ fin
  replace hown : s.vm.findClass "java/lang/String" = some m.cls := hown
  replace hml : 3 = c.maxLocals := hml.symm
  refine own_step (fun t k => castTop (ef_rmEq_1 m a1 a2) k) ?_
  refine own_aloadN X hx hby d_jdk_42_method_66_code_0 rfl rfl (pc' := 1) rfl ?_
  refine own_aloadN X hx hby d_jdk_42_method_66_code_1 rfl rfl (pc' := 2) rfl ?_
  refine own_acmp X hx hby d_jdk_42_method_66_code_2 rfl rfl (same := false) (decide_eq_false (fun q => ne12 (Value.ref.inj q))) (by decide) (pc' := 7) (by decide) ?_
  refine own_aloadN X hx hby d_jdk_42_method_66_code_7 rfl rfl (pc' := 8) rfl ?_
  obtain ⟨T1, X1, e1, st1⟩ := instY X hx hZ hown (own_w hw 30 rfl) eT (Ins.self E2) (g := (mkF m 8 #[.val (.ref a1), .val (.ref a2), .unset] [(.ref a2)])) rfl rfl (hb hby d_jdk_42_method_66_code_8)
  refine own_step st1 ?_
  show GoP p e below Φ (T1.setTop (mkF m 11 #[.val (.ref a1), .val (.ref a2), .unset] [(.int (1 : Int32))]))
  refine own_ifN X1 hx hby d_jdk_42_method_66_code_11 ((if0 _ _).trans (feq (by decide)).1) (pc' := 14) rfl ?_
  refine own_aloadN X1 hx hby d_jdk_42_method_66_code_14 rfl rfl (pc' := 15) rfl ?_
  obtain ⟨T2, X2, e2, st2⟩ := castY X1 hx hZ hown (own_w hw 30 rfl) e1 (Ins.self E2) (g := (mkF m 15 #[.val (.ref a1), .val (.ref a2), .unset] [(.ref a2)])) rfl rfl (hb hby d_jdk_42_method_66_code_15)
  refine own_step st2 ?_
  show GoP p e below Φ (T2.setTop (mkF m 18 #[.val (.ref a1), .val (.ref a2), .unset] [(.ref a2)]))
  refine own_astoreN X2 hx hby d_jdk_42_method_66_code_18 rfl (Ls' := #[.val (.ref a1), .val (.ref a2), .val (.ref a2)]) rfl (pc' := 19) rfl ?_
  obtain ⟨T3, X3, e3, st3⟩ := getS2 X2 hx hZ hown (host := "") (Or.inl (own_w hw 25 rfl)) Via.refl e2 Scs (g := (mkF m 19 #[.val (.ref a1), .val (.ref a2), .val (.ref a2)] [])) rfl (hb hby d_jdk_42_method_66_code_19)
  refine own_step st3 ?_
  show GoP p e below Φ (T3.setTop (mkF m 22 #[.val (.ref a1), .val (.ref a2), .val (.ref a2)] [(.int cs)]))
  refine own_ifN X3 hx hby d_jdk_42_method_66_code_22 ((if0 _ _).trans (feq hcs).1) (pc' := 25) rfl ?_
  refine own_aloadN X3 hx hby d_jdk_42_method_66_code_25 rfl rfl (pc' := 26) rfl ?_
  obtain ⟨T4, X4, e4, st4⟩ := getF X3 hx hZ hown (host := "") (Or.inl (own_w hw 21 rfl)) Via.refl e3 F1 (g := (mkF m 26 #[.val (.ref a1), .val (.ref a2), .val (.ref a2)] [(.ref a1)])) rfl rfl (hb hby d_jdk_42_method_66_code_26)
  refine own_step st4 ?_
  show GoP p e below Φ (T4.setTop (mkF m 29 #[.val (.ref a1), .val (.ref a2), .val (.ref a2)] [(.int (0 : Int32))]))
  refine own_aloadN X4 hx hby d_jdk_42_method_66_code_29 rfl rfl (pc' := 30) rfl ?_
  obtain ⟨T5, X5, e5, st5⟩ := getF X4 hx hZ hown (host := "") (Or.inl (own_w hw 21 rfl)) Via.refl e4 F2 (g := (mkF m 30 #[.val (.ref a1), .val (.ref a2), .val (.ref a2)] [(.ref a2), (.int (0 : Int32))])) rfl rfl (hb hby d_jdk_42_method_66_code_30)
  refine own_step st5 ?_
  show GoP p e below Φ (T5.setTop (mkF m 33 #[.val (.ref a1), .val (.ref a2), .val (.ref a2)] [(.int (0 : Int32)), (.int (0 : Int32))]))
  refine own_icmpN X5 hx hby d_jdk_42_method_66_code_33 (teq (by decide)).2 (pc' := 36) rfl ?_
  refine own_aloadN X5 hx hby d_jdk_42_method_66_code_36 rfl rfl (pc' := 37) rfl ?_
  obtain ⟨T6, X6, e6, st6⟩ := getF X5 hx hZ hown (host := "") (Or.inl (own_w hw 20 rfl)) Via.refl e5 G1 (g := (mkF m 37 #[.val (.ref a1), .val (.ref a2), .val (.ref a2)] [(.ref a1)])) rfl rfl (hb hby d_jdk_42_method_66_code_37)
  refine own_step st6 ?_
  show GoP p e below Φ (T6.setTop (mkF m 40 #[.val (.ref a1), .val (.ref a2), .val (.ref a2)] [(.ref b1)]))
  refine own_aloadN X6 hx hby d_jdk_42_method_66_code_40 rfl rfl (pc' := 41) rfl ?_
  obtain ⟨T7, X7, e7, st7⟩ := getF X6 hx hZ hown (host := "") (Or.inl (own_w hw 20 rfl)) Via.refl e6 G2 (g := (mkF m 41 #[.val (.ref a1), .val (.ref a2), .val (.ref a2)] [(.ref a2), (.ref b1)])) rfl rfl (hb hby d_jdk_42_method_66_code_41)
  refine own_step st7 ?_
  show GoP p e below Φ (T7.setTop (mkF m 44 #[.val (.ref a1), .val (.ref a2), .val (.ref a2)] [(.ref b2), (.ref b1)]))
  refine own_callS X7 hx hby hZ (by exact hml) hown (own_w hw 75 rfl) (own_w hw 76 rfl) (own_w hw 28 rfl) (own_w hw 77 rfl) (by decide) e7 0 (by decide) (by decide) (by decide) (by decide) (argsL := [(.ref b1), (.ref b2)]) (rest := []) (lenOf pd___B_B_Z rfl) rfl (rmLE_1 l Z a0 hw b1 b2 x0 h0 V1 V2) (Nat.le_of_eq rfl) d_jdk_42_method_66_code_44 (pc' := 47) rfl ?_
  intro v8 T8 L8 X8 hQ8
  obtain ⟨rfl, rfl, e8⟩ := hQ8
  rw [List.append_nil] at X8
  replace e8 : T8.heap = h0 := e8
  show GoP p e below Φ (T8.setTop (mkF m 47 #[.val (.ref a1), .val (.ref a2), .val (.ref a2)] [(.int (1 : Int32))]))
  refine own_ifN X8 hx hby d_jdk_42_method_66_code_47 ((if0 _ _).trans (feq (by decide)).1) (pc' := 50) rfl ?_
  refine own_iconst X8 hx hby d_jdk_42_method_66_code_50 (v := (1 : Int32)) rfl (pc' := 51) rfl ?_
  refine own_goto X8 hx hby d_jdk_42_method_66_code_51 (by decide) (pc' := 55) (by decide) ?_
  exact own_retN X8 hx hby fin hret (by simp) rfl d_jdk_42_method_66_code_55 (by decide) (by decide) ⟨rfl, rfl, e8⟩
theorem ef_rmLE_2 (m : MethodId) (x0 : Addr) (x1 : Addr) : entryFrame m #[(.ref x0), (.ref x1)] 3 = mkF m 0 #[.val (.ref x0), .val (.ref x1), .unset] [] := by first | (simp [entryFrame, mkF, argsToLocals, Value.category]; done) | rfl
set_option maxRecDepth 65536 in
set_option maxHeartbeats 40000000 in
theorem rmLE_2 (l : Launch) (Z : State) (a0 : Array Value) (hw : ∀ d ∈ tables_1, d.before a0 Z = true) (b1 b2 : Addr) (x0 : Int32) (x1 : Int32) (h0 : Heap) (V1 : AV Z h0 b1 .byte [(.int x0), (.int x1)]) (V2 : AV Z h0 b2 .byte [(.int x0), (.int x1)]) : Con l Z (⟨"java/lang/StringLatin1", "equals", "([B[B)Z"⟩ : MethodName) jdk_43_method_13_code 3 (some .boolean) [] ({ frames := 0, cells := 0, slots := 0, locals := 0 } : Room) #[(.ref b1), (.ref b2)] h0 (fun v h L => v = some (.int (1 : Int32)) ∧ L = [] ∧ h = h0) := by
  refine Con.of (plainFor_of_name pn_java_lang_StringLatin1) ?_
  intro p e s m below meth c T X hx hby hml hown hnm hret eT hZ hsh Φ fin
  replace hown : s.vm.findClass "java/lang/StringLatin1" = some m.cls := hown
  replace hml : 3 = c.maxLocals := hml.symm
  refine own_step (fun t k => castTop (ef_rmLE_2 m b1 b2) k) ?_
  refine own_aloadN X hx hby d_jdk_43_method_13_code_0 rfl rfl (pc' := 1) rfl ?_
  refine own_alen X hx hby hZ eT (n := (2 : Int32)) V1 rfl d_jdk_43_method_13_code_1 (pc' := 2) rfl ?_
  refine own_aloadN X hx hby d_jdk_43_method_13_code_2 rfl rfl (pc' := 3) rfl ?_
  refine own_alen X hx hby hZ eT (n := (2 : Int32)) V2 rfl d_jdk_43_method_13_code_3 (pc' := 4) rfl ?_
  refine own_icmpN X hx hby d_jdk_43_method_13_code_4 (teq (by decide)).2 (pc' := 7) rfl ?_
  refine own_iconst X hx hby d_jdk_43_method_13_code_7 (v := (0 : Int32)) rfl (pc' := 8) rfl ?_
  refine own_istoreN X hx hby d_jdk_43_method_13_code_8  (Ls' := #[.val (.ref b1), .val (.ref b2), .val (.int (0 : Int32))]) rfl (pc' := 9) rfl ?_
  refine own_iloadN X hx hby d_jdk_43_method_13_code_9 rfl (pc' := 10) rfl ?_
  refine own_aloadN X hx hby d_jdk_43_method_13_code_10 rfl rfl (pc' := 11) rfl ?_
  refine own_alen X hx hby hZ eT (n := (2 : Int32)) V1 rfl d_jdk_43_method_13_code_11 (pc' := 12) rfl ?_
  refine own_icmpN X hx hby d_jdk_43_method_13_code_12 (tlt (by decide)).2.1 (pc' := 15) rfl ?_
  refine own_aloadN X hx hby d_jdk_43_method_13_code_15 rfl rfl (pc' := 16) rfl ?_
  refine own_iloadN X hx hby d_jdk_43_method_13_code_16 rfl (pc' := 17) rfl ?_
  refine own_baload X hx hby hZ eT V1 (by decide) (v := (.int x0)) rfl d_jdk_43_method_13_code_17 (pc' := 18) rfl ?_
  refine own_aloadN X hx hby d_jdk_43_method_13_code_18 rfl rfl (pc' := 19) rfl ?_
  refine own_iloadN X hx hby d_jdk_43_method_13_code_19 rfl (pc' := 20) rfl ?_
  refine own_baload X hx hby hZ eT V2 (by decide) (v := (.int x0)) rfl d_jdk_43_method_13_code_20 (pc' := 21) rfl ?_
  refine own_icmpY X hx hby d_jdk_43_method_13_code_21 (teq rfl).1 (by decide) (pc' := 26) (by decide) ?_
  refine own_iinc X hx hby d_jdk_43_method_13_code_26 rfl (v := (1 : Int32)) rfl (Ls' := #[.val (.ref b1), .val (.ref b2), .val (.int (1 : Int32))]) rfl (pc' := 29) rfl ?_
  refine own_goto X hx hby d_jdk_43_method_13_code_29 (by decide) (pc' := 9) (by decide) ?_
  refine own_iloadN X hx hby d_jdk_43_method_13_code_9 rfl (pc' := 10) rfl ?_
  refine own_aloadN X hx hby d_jdk_43_method_13_code_10 rfl rfl (pc' := 11) rfl ?_
  refine own_alen X hx hby hZ eT (n := (2 : Int32)) V1 rfl d_jdk_43_method_13_code_11 (pc' := 12) rfl ?_
  refine own_icmpN X hx hby d_jdk_43_method_13_code_12 (tlt (by decide)).2.1 (pc' := 15) rfl ?_
  refine own_aloadN X hx hby d_jdk_43_method_13_code_15 rfl rfl (pc' := 16) rfl ?_
  refine own_iloadN X hx hby d_jdk_43_method_13_code_16 rfl (pc' := 17) rfl ?_
  refine own_baload X hx hby hZ eT V1 (by decide) (v := (.int x1)) rfl d_jdk_43_method_13_code_17 (pc' := 18) rfl ?_
  refine own_aloadN X hx hby d_jdk_43_method_13_code_18 rfl rfl (pc' := 19) rfl ?_
  refine own_iloadN X hx hby d_jdk_43_method_13_code_19 rfl (pc' := 20) rfl ?_
  refine own_baload X hx hby hZ eT V2 (by decide) (v := (.int x1)) rfl d_jdk_43_method_13_code_20 (pc' := 21) rfl ?_
  refine own_icmpY X hx hby d_jdk_43_method_13_code_21 (teq rfl).1 (by decide) (pc' := 26) (by decide) ?_
  refine own_iinc X hx hby d_jdk_43_method_13_code_26 rfl (v := (1 : Int32)) rfl (Ls' := #[.val (.ref b1), .val (.ref b2), .val (.int (2 : Int32))]) rfl (pc' := 29) rfl ?_
  refine own_goto X hx hby d_jdk_43_method_13_code_29 (by decide) (pc' := 9) (by decide) ?_
  refine own_iloadN X hx hby d_jdk_43_method_13_code_9 rfl (pc' := 10) rfl ?_
  refine own_aloadN X hx hby d_jdk_43_method_13_code_10 rfl rfl (pc' := 11) rfl ?_
  refine own_alen X hx hby hZ eT (n := (2 : Int32)) V1 rfl d_jdk_43_method_13_code_11 (pc' := 12) rfl ?_
  refine own_icmpY X hx hby d_jdk_43_method_13_code_12 (flt (by decide)).2.1 (by decide) (pc' := 32) (by decide) ?_
  refine own_iconst X hx hby d_jdk_43_method_13_code_32 (v := (1 : Int32)) rfl (pc' := 33) rfl ?_
  exact own_retN X hx hby fin hret (by simp) rfl d_jdk_43_method_13_code_33 (by decide) (by decide) ⟨rfl, rfl, eT⟩
theorem ef_rmEq_2 (m : MethodId) (x0 : Addr) (x1 : Addr) : entryFrame m #[(.ref x0), (.ref x1)] 3 = mkF m 0 #[.val (.ref x0), .val (.ref x1), .unset] [] := by first | (simp [entryFrame, mkF, argsToLocals, Value.category]; done) | rfl
set_option maxRecDepth 65536 in
set_option maxHeartbeats 40000000 in
theorem rmEq_2 (l : Launch) (Z : State) (a0 : Array Value) (hw : ∀ d ∈ tables_1, d.before a0 Z = true) (a1 a2 b1 b2 : Addr) (cs : Int32) (x0 : Int32) (x1 : Int32) (h0 : Heap) (hcs : ¬ cs = (0 : Int32)) (ne12 : a1 ≠ a2) (Scs : Sta Z h0 "java/lang/String" "COMPACT_STRINGS" "Z" (.int cs)) (E1 : Exa Z h0 a1 "java/lang/String") (F1 : Fld Z h0 a1 "java/lang/String" "coder" "B" (.int (0 : Int32))) (G1 : Fld Z h0 a1 "java/lang/String" "value" "[B" (.ref b1)) (V1 : AV Z h0 b1 .byte [(.int x0), (.int x1)]) (E2 : Exa Z h0 a2 "java/lang/String") (F2 : Fld Z h0 a2 "java/lang/String" "coder" "B" (.int (0 : Int32))) (G2 : Fld Z h0 a2 "java/lang/String" "value" "[B" (.ref b2)) (V2 : AV Z h0 b2 .byte [(.int x0), (.int x1)]) : Con l Z (⟨"java/lang/String", "equals", "(Ljava/lang/Object;)Z"⟩ : MethodName) jdk_42_method_66_code 3 (some .boolean) [] ({ frames := 1, cells := 0, slots := 0, locals := 20 } : Room) #[(.ref a1), (.ref a2)] h0 (fun v h L => v = some (.int (1 : Int32)) ∧ L = [] ∧ h = h0) := by
  refine Con.of (plainFor_of_name pn_java_lang_String) ?_
  intro p e s m below meth c T X hx hby hml hown hnm hret eT hZ hsh Φ fin
  replace hown : s.vm.findClass "java/lang/String" = some m.cls := hown
  replace hml : 3 = c.maxLocals := hml.symm
  refine own_step (fun t k => castTop (ef_rmEq_2 m a1 a2) k) ?_
  refine own_aloadN X hx hby d_jdk_42_method_66_code_0 rfl rfl (pc' := 1) rfl ?_
  refine own_aloadN X hx hby d_jdk_42_method_66_code_1 rfl rfl (pc' := 2) rfl ?_
  refine own_acmp X hx hby d_jdk_42_method_66_code_2 rfl rfl (same := false) (decide_eq_false (fun q => ne12 (Value.ref.inj q))) (by decide) (pc' := 7) (by decide) ?_
  refine own_aloadN X hx hby d_jdk_42_method_66_code_7 rfl rfl (pc' := 8) rfl ?_
  obtain ⟨T1, X1, e1, st1⟩ := instY X hx hZ hown (own_w hw 30 rfl) eT (Ins.self E2) (g := (mkF m 8 #[.val (.ref a1), .val (.ref a2), .unset] [(.ref a2)])) rfl rfl (hb hby d_jdk_42_method_66_code_8)
  refine own_step st1 ?_
  show GoP p e below Φ (T1.setTop (mkF m 11 #[.val (.ref a1), .val (.ref a2), .unset] [(.int (1 : Int32))]))
  refine own_ifN X1 hx hby d_jdk_42_method_66_code_11 ((if0 _ _).trans (feq (by decide)).1) (pc' := 14) rfl ?_
  refine own_aloadN X1 hx hby d_jdk_42_method_66_code_14 rfl rfl (pc' := 15) rfl ?_
  obtain ⟨T2, X2, e2, st2⟩ := castY X1 hx hZ hown (own_w hw 30 rfl) e1 (Ins.self E2) (g := (mkF m 15 #[.val (.ref a1), .val (.ref a2), .unset] [(.ref a2)])) rfl rfl (hb hby d_jdk_42_method_66_code_15)
  refine own_step st2 ?_
  show GoP p e below Φ (T2.setTop (mkF m 18 #[.val (.ref a1), .val (.ref a2), .unset] [(.ref a2)]))
  refine own_astoreN X2 hx hby d_jdk_42_method_66_code_18 rfl (Ls' := #[.val (.ref a1), .val (.ref a2), .val (.ref a2)]) rfl (pc' := 19) rfl ?_
  obtain ⟨T3, X3, e3, st3⟩ := getS2 X2 hx hZ hown (host := "") (Or.inl (own_w hw 25 rfl)) Via.refl e2 Scs (g := (mkF m 19 #[.val (.ref a1), .val (.ref a2), .val (.ref a2)] [])) rfl (hb hby d_jdk_42_method_66_code_19)
  refine own_step st3 ?_
  show GoP p e below Φ (T3.setTop (mkF m 22 #[.val (.ref a1), .val (.ref a2), .val (.ref a2)] [(.int cs)]))
  refine own_ifN X3 hx hby d_jdk_42_method_66_code_22 ((if0 _ _).trans (feq hcs).1) (pc' := 25) rfl ?_
  refine own_aloadN X3 hx hby d_jdk_42_method_66_code_25 rfl rfl (pc' := 26) rfl ?_
  obtain ⟨T4, X4, e4, st4⟩ := getF X3 hx hZ hown (host := "") (Or.inl (own_w hw 21 rfl)) Via.refl e3 F1 (g := (mkF m 26 #[.val (.ref a1), .val (.ref a2), .val (.ref a2)] [(.ref a1)])) rfl rfl (hb hby d_jdk_42_method_66_code_26)
  refine own_step st4 ?_
  show GoP p e below Φ (T4.setTop (mkF m 29 #[.val (.ref a1), .val (.ref a2), .val (.ref a2)] [(.int (0 : Int32))]))
  refine own_aloadN X4 hx hby d_jdk_42_method_66_code_29 rfl rfl (pc' := 30) rfl ?_
  obtain ⟨T5, X5, e5, st5⟩ := getF X4 hx hZ hown (host := "") (Or.inl (own_w hw 21 rfl)) Via.refl e4 F2 (g := (mkF m 30 #[.val (.ref a1), .val (.ref a2), .val (.ref a2)] [(.ref a2), (.int (0 : Int32))])) rfl rfl (hb hby d_jdk_42_method_66_code_30)
  refine own_step st5 ?_
  show GoP p e below Φ (T5.setTop (mkF m 33 #[.val (.ref a1), .val (.ref a2), .val (.ref a2)] [(.int (0 : Int32)), (.int (0 : Int32))]))
  refine own_icmpN X5 hx hby d_jdk_42_method_66_code_33 (teq (by decide)).2 (pc' := 36) rfl ?_
  refine own_aloadN X5 hx hby d_jdk_42_method_66_code_36 rfl rfl (pc' := 37) rfl ?_
  obtain ⟨T6, X6, e6, st6⟩ := getF X5 hx hZ hown (host := "") (Or.inl (own_w hw 20 rfl)) Via.refl e5 G1 (g := (mkF m 37 #[.val (.ref a1), .val (.ref a2), .val (.ref a2)] [(.ref a1)])) rfl rfl (hb hby d_jdk_42_method_66_code_37)
  refine own_step st6 ?_
  show GoP p e below Φ (T6.setTop (mkF m 40 #[.val (.ref a1), .val (.ref a2), .val (.ref a2)] [(.ref b1)]))
  refine own_aloadN X6 hx hby d_jdk_42_method_66_code_40 rfl rfl (pc' := 41) rfl ?_
  obtain ⟨T7, X7, e7, st7⟩ := getF X6 hx hZ hown (host := "") (Or.inl (own_w hw 20 rfl)) Via.refl e6 G2 (g := (mkF m 41 #[.val (.ref a1), .val (.ref a2), .val (.ref a2)] [(.ref a2), (.ref b1)])) rfl rfl (hb hby d_jdk_42_method_66_code_41)
  refine own_step st7 ?_
  show GoP p e below Φ (T7.setTop (mkF m 44 #[.val (.ref a1), .val (.ref a2), .val (.ref a2)] [(.ref b2), (.ref b1)]))
  refine own_callS X7 hx hby hZ (by exact hml) hown (own_w hw 75 rfl) (own_w hw 76 rfl) (own_w hw 28 rfl) (own_w hw 77 rfl) (by decide) e7 0 (by decide) (by decide) (by decide) (by decide) (argsL := [(.ref b1), (.ref b2)]) (rest := []) (lenOf pd___B_B_Z rfl) rfl (rmLE_2 l Z a0 hw b1 b2 x0 x1 h0 V1 V2) (Nat.le_of_eq rfl) d_jdk_42_method_66_code_44 (pc' := 47) rfl ?_
  intro v8 T8 L8 X8 hQ8
  obtain ⟨rfl, rfl, e8⟩ := hQ8
  rw [List.append_nil] at X8
  replace e8 : T8.heap = h0 := e8
  show GoP p e below Φ (T8.setTop (mkF m 47 #[.val (.ref a1), .val (.ref a2), .val (.ref a2)] [(.int (1 : Int32))]))
  refine own_ifN X8 hx hby d_jdk_42_method_66_code_47 ((if0 _ _).trans (feq (by decide)).1) (pc' := 50) rfl ?_
  refine own_iconst X8 hx hby d_jdk_42_method_66_code_50 (v := (1 : Int32)) rfl (pc' := 51) rfl ?_
  refine own_goto X8 hx hby d_jdk_42_method_66_code_51 (by decide) (pc' := 55) (by decide) ?_
  exact own_retN X8 hx hby fin hret (by simp) rfl d_jdk_42_method_66_code_55 (by decide) (by decide) ⟨rfl, rfl, e8⟩
theorem ef_rmCE (m : MethodId) (x0 : Int32) : entryFrame m #[(.int x0)] 1 = mkF m 0 #[.val (.int x0)] [] := by first | (simp [entryFrame, mkF, argsToLocals, Value.category]; done) | rfl
theorem d_jdk_43_method_3_code_0 : decode jdk_43_method_3_code 0 = .ok (.iload_n 0, 1) := by decide +kernel
theorem d_jdk_43_method_3_code_1 : decode jdk_43_method_3_code 1 = .ok (.sipush 255, 3) := by decide +kernel
theorem d_jdk_43_method_3_code_4 : decode jdk_43_method_3_code 4 = .ok (.if_icmp .gt 7, 3) := by decide +kernel
theorem d_jdk_43_method_3_code_7 : decode jdk_43_method_3_code 7 = .ok (.iconst 1, 1) := by decide +kernel
theorem d_jdk_43_method_3_code_8 : decode jdk_43_method_3_code 8 = .ok (.goto 4, 3) := by decide +kernel
theorem d_jdk_43_method_3_code_12 : decode jdk_43_method_3_code 12 = .ok (.ireturn, 1) := by decide +kernel
set_option maxRecDepth 65536 in
set_option maxHeartbeats 40000000 in
theorem rmCE (l : Launch) (Z : State) (a0 : Array Value) (hw : ∀ d ∈ tables_1, d.before a0 Z = true) (x : Int32) (h0 : Heap) (hx0 : ¬ (255 : Int32) < x) : Con l Z (⟨"java/lang/StringLatin1", "canEncode", "(C)Z"⟩ : MethodName) jdk_43_method_3_code 1 (some .boolean) [] ({ frames := 0, cells := 0, slots := 0, locals := 0 } : Room) #[(.int x)] h0 (fun v h L => v = some (.int (1 : Int32)) ∧ L = [] ∧ h = h0) := by
  refine Con.of (plainFor_of_name pn_java_lang_StringLatin1) ?_
  intro p e s m below meth c T X hx hby hml hown hnm hret eT hZ hsh Φ fin
  replace hown : s.vm.findClass "java/lang/StringLatin1" = some m.cls := hown
  replace hml : 1 = c.maxLocals := hml.symm
  refine own_step (fun t k => castTop (ef_rmCE m x) k) ?_
  refine own_iloadN X hx hby d_jdk_43_method_3_code_0 rfl (pc' := 1) rfl ?_
  refine own_sipush X hx hby d_jdk_43_method_3_code_1 (v := (255 : Int32)) rfl (pc' := 4) rfl ?_
  refine own_icmpN X hx hby d_jdk_43_method_3_code_4 (flt hx0).2.2.1 (pc' := 7) rfl ?_
  refine own_iconst X hx hby d_jdk_43_method_3_code_7 (v := (1 : Int32)) rfl (pc' := 8) rfl ?_
  refine own_goto X hx hby d_jdk_43_method_3_code_8 (by decide) (pc' := 12) (by decide) ?_
  exact own_retN X hx hby fin hret (by simp) rfl d_jdk_43_method_3_code_12 (by decide) (by decide) ⟨rfl, rfl, eT⟩
theorem ef_rmTB (m : MethodId) (x0 : Int32) : entryFrame m #[(.int x0)] 1 = mkF m 0 #[.val (.int x0)] [] := by first | (simp [entryFrame, mkF, argsToLocals, Value.category]; done) | rfl
theorem d_jdk_43_method_46_code_0 : decode jdk_43_method_46_code 0 = .ok (.iconst 1, 1) := by decide +kernel
theorem d_jdk_43_method_46_code_1 : decode jdk_43_method_46_code 1 = .ok (.newarray .byte, 2) := by decide +kernel
theorem d_jdk_43_method_46_code_3 : decode jdk_43_method_46_code 3 = .ok (.dup, 1) := by decide +kernel
theorem d_jdk_43_method_46_code_4 : decode jdk_43_method_46_code 4 = .ok (.iconst 0, 1) := by decide +kernel
theorem d_jdk_43_method_46_code_5 : decode jdk_43_method_46_code 5 = .ok (.iload_n 0, 1) := by decide +kernel
theorem d_jdk_43_method_46_code_6 : decode jdk_43_method_46_code 6 = .ok (.i2b, 1) := by decide +kernel
theorem d_jdk_43_method_46_code_7 : decode jdk_43_method_46_code 7 = .ok (.bastore, 1) := by decide +kernel
theorem d_jdk_43_method_46_code_8 : decode jdk_43_method_46_code 8 = .ok (.areturn, 1) := by decide +kernel
set_option maxRecDepth 65536 in
set_option maxHeartbeats 40000000 in
theorem rmTB (l : Launch) (Z : State) (a0 : Array Value) (hw : ∀ d ∈ tables_1, d.before a0 Z = true) (x : Int32) (n0 : Nat) (h0 : Heap) (Z0 : n0 ≤ h0.size) : Con l Z (⟨"java/lang/StringLatin1", "toBytes", "(C)[B"⟩ : MethodName) jdk_43_method_46_code 1 (some (.array .byte)) [] ({ frames := 0, cells := 1, slots := 1, locals := 0 } : Room) #[(.int x)] h0 (fun v h L => ∃ b : Addr, v = some (.ref b) ∧ Fr n0 L ∧ Keep h0 h [] ∧ h0.size ≤ b) := by
  refine Con.of (plainFor_of_name pn_java_lang_StringLatin1) ?_
  intro p e s m below meth c T X hx hby hml hown hnm hret eT hZ hsh Φ fin
  replace hown : s.vm.findClass "java/lang/StringLatin1" = some m.cls := hown
  replace hml : 1 = c.maxLocals := hml.symm
  refine own_step (fun t k => castTop (ef_rmTB m x) k) ?_
  have N0 := Fr.nil n0
  have K0 : Keep h0 h0 [] := Keep.refl h0 []
  refine own_iconst X hx hby d_jdk_43_method_46_code_0 (v := (1 : Int32)) rfl (pc' := 1) rfl ?_
  obtain ⟨T1, h1, k1, X1, e1, E1, A1, st1⟩ := newP X hx hZ (own_w hw 15 rfl) eT (g := (mkF m 1 #[.val (.int x)] [(.int (1 : Int32))])) rfl (hb hby d_jdk_43_method_46_code_1) rfl (by decide) (cap := 1) (by decide) (by decide) (by decide) (by decide)
  obtain ⟨b1, g1⟩ : ∃ z, z = h0.size := ⟨_, rfl⟩
  have Z1 : n0 ≤ h1.size := Nat.le_trans Z0 E1.1
  have n0_b1 : n0 ≤ b1 := g1 ▸ Z0
  have sz_b1 : h0.size ≤ b1 := g1 ▸ K0.1
  have K1 : Keep h0 h1 [] := K0.ext E1
  rw [← g1] at A1 st1
  refine own_step st1 ?_
  have V1 : AV Z h1 b1 .byte [(.int (0 : Int32))] := AV.new A1 (by decide)
  show GoP p e below Φ (T1.setTop (mkF m 3 #[.val (.int x)] [(.ref b1)]))
  refine own_dup X1 hx hby d_jdk_43_method_46_code_3 rfl (pc' := 4) rfl ?_
  refine own_iconst X1 hx hby d_jdk_43_method_46_code_4 (v := (0 : Int32)) rfl (pc' := 5) rfl ?_
  refine own_iloadN X1 hx hby d_jdk_43_method_46_code_5 rfl (pc' := 6) rfl ?_
  refine own_i2b X1 hx hby d_jdk_43_method_46_code_6 (pc' := 7) rfl ?_
  refine own_bastoreB X1 hx hby hZ e1 V1 (by decide) (Nat.le_of_ble_eq_true rfl) d_jdk_43_method_46_code_7 (pc' := 8) rfl ?_
  intro T2 h2 X2 e2 W2 V2
  replace V2 : AV Z h2 b1 .byte [(.int (nar .byte (x.toInt8.toInt32)))] := V2
  have Z2 : n0 ≤ h2.size := by rw [W2.size]; exact Z1
  have N2 := Fr.snoc X2 N0 n0_b1
  have K2 : Keep h0 h2 [] := K1.wr W2 (Or.inr sz_b1)
  exact own_retA X2 hx hby fin hret rfl rfl rfl d_jdk_43_method_46_code_8 (by decide) (by decide) (by rw [e2]; exact ⟨b1, rfl, N2, K2, sz_b1⟩)
theorem ef_rmIB (m : MethodId) (x0 : Addr) (x1 : Addr) (x2 : Int32) : entryFrame m #[(.ref x0), (.ref x1), (.int x2)] 3 = mkF m 0 #[.val (.ref x0), .val (.ref x1), .val (.int x2)] [] := by first | (simp [entryFrame, mkF, argsToLocals, Value.category]; done) | rfl
theorem d_jdk_42_method_151_code_0 : decode jdk_42_method_151_code 0 = .ok (.aload_n 0, 1) := by decide +kernel
theorem d_jdk_42_method_151_code_1 : decode jdk_42_method_151_code 1 = .ok (.invokespecial 1, 3) := by decide +kernel
theorem d_jdk_42_method_151_code_4 : decode jdk_42_method_151_code 4 = .ok (.aload_n 0, 1) := by decide +kernel
theorem d_jdk_42_method_151_code_5 : decode jdk_42_method_151_code 5 = .ok (.aload_n 1, 1) := by decide +kernel
theorem d_jdk_42_method_151_code_6 : decode jdk_42_method_151_code 6 = .ok (.putfield 9, 3) := by decide +kernel
theorem d_jdk_42_method_151_code_9 : decode jdk_42_method_151_code 9 = .ok (.aload_n 0, 1) := by decide +kernel
theorem d_jdk_42_method_151_code_10 : decode jdk_42_method_151_code 10 = .ok (.iload_n 2, 1) := by decide +kernel
theorem d_jdk_42_method_151_code_11 : decode jdk_42_method_151_code 11 = .ok (.putfield 15, 3) := by decide +kernel
theorem d_jdk_42_method_151_code_14 : decode jdk_42_method_151_code 14 = .ok (.return_, 1) := by decide +kernel
set_option maxRecDepth 65536 in
set_option maxHeartbeats 40000000 in
theorem rmIB (l : Launch) (Z : State) (a0 : Array Value) (hw : ∀ d ∈ tables_1, d.before a0 Z = true) (a b : Addr) (n0 : Nat) (h0 : Heap) (n0_a : n0 ≤ a) (E : Exa Z h0 a "java/lang/String") (F : Fld Z h0 a "java/lang/String" "coder" "B" (.int (0 : Int32))) (G : Fld Z h0 a "java/lang/String" "value" "[B" .null) : Con l Z (⟨"java/lang/String", "<init>", "([BB)V"⟩ : MethodName) jdk_42_method_151_code 3 none [] ({ frames := 1, cells := 0, slots := 0, locals := 12 } : Room) #[(.ref a), (.ref b), (.int (0 : Int32))] h0 (fun v h L => v = none ∧ Fr n0 L ∧ Keep h0 h [a]) := by
  refine Con.of (plainFor_of_name pn_java_lang_String) ?_
  intro p e s m below meth c T X hx hby hml hown hnm hret eT hZ hsh Φ fin
  replace hown : s.vm.findClass "java/lang/String" = some m.cls := hown
  replace hml : 3 = c.maxLocals := hml.symm
  refine own_step (fun t k => castTop (ef_rmIB m a b (0 : Int32)) k) ?_
  have N0 := Fr.nil n0
  have K0 : Keep h0 h0 [a] := Keep.refl h0 [a]
  refine own_aloadN X hx hby d_jdk_42_method_151_code_0 rfl rfl (pc' := 1) rfl ?_
  obtain ⟨T1, X1, e1, st1⟩ := initO X hx hZ hown (own_w hw 11 rfl) (own_w hw 12 rfl) (own_w hw 13 rfl) eT (g := (mkF m 1 #[.val (.ref a), .val (.ref b), .val (.int (0 : Int32))] [(.ref a)])) rfl hml rfl (hb hby d_jdk_42_method_151_code_1) (by decide) (W := 0) (by show 2 * 0 + _ ≤ _; exact Nat.le_of_eq rfl) (by decide)
  refine own_step st1 ?_
  show GoP p e below Φ (T1.setTop (mkF m 4 #[.val (.ref a), .val (.ref b), .val (.int (0 : Int32))] []))
  refine own_aloadN X1 hx hby d_jdk_42_method_151_code_4 rfl rfl (pc' := 5) rfl ?_
  refine own_aloadN X1 hx hby d_jdk_42_method_151_code_5 rfl rfl (pc' := 6) rfl ?_
  obtain ⟨T2, h2, X2, e2, W2, st2⟩ := putF X1 hx hZ hown (host := "") (Or.inl (own_w hw 20 rfl)) Via.refl e1 G E (Or.inr ⟨(own_w hw 16 rfl), rfl, hnm⟩) (own_w hw 2 rfl) (ty := (.array .byte)) (by decide) rfl rfl (g := (mkF m 6 #[.val (.ref a), .val (.ref b), .val (.int (0 : Int32))] [(.ref b), (.ref a)])) rfl rfl (hb hby d_jdk_42_method_151_code_6)
  refine own_step st2 ?_
  have E3_a := E.wr W2
  have F4_coder := F.other W2 (Or.inr (slot_ne (Or.inr (own_w hw 17 rfl)) (Or.inr (own_w hw 16 rfl)) (by decide) (t := .byte) (t' := (.array .byte)) (by decide) (by decide)))
  have F5_value := G.same W2
  have N2 := Fr.snoc X2 N0 n0_a
  have K2 : Keep h0 h2 [a] := K0.wr W2 (Or.inl (List.mem_of_getElem? (i := 0) rfl))
  show GoP p e below Φ (T2.setTop (mkF m 9 #[.val (.ref a), .val (.ref b), .val (.int (0 : Int32))] []))
  refine own_aloadN X2 hx hby d_jdk_42_method_151_code_9 rfl rfl (pc' := 10) rfl ?_
  refine own_iloadN X2 hx hby d_jdk_42_method_151_code_10 rfl (pc' := 11) rfl ?_
  obtain ⟨T6, h6, X6, e6, W6, st6⟩ := putFN X2 hx hZ hown (own_w hw 21 rfl) Via.refl e2 F4_coder E3_a (Or.inr ⟨(own_w hw 17 rfl), rfl, hnm⟩) (own_w hw 2 rfl) (ty := .byte) (v' := (.int (0 : Int32))) (by decide) rfl (by decide) (g := (mkF m 11 #[.val (.ref a), .val (.ref b), .val (.int (0 : Int32))] [(.int (0 : Int32)), (.ref a)])) rfl rfl (hb hby d_jdk_42_method_151_code_11)
  refine own_step st6 ?_
  have E7_a := E3_a.wr W6
  have F8_coder := F4_coder.same W6
  have F9_value := F5_value.other W6 (Or.inr (slot_ne (Or.inr (own_w hw 16 rfl)) (Or.inr (own_w hw 17 rfl)) (by decide) (t := (.array .byte)) (t' := .byte) (by decide) (by decide)))
  have N6 := Fr.snoc X6 N2 n0_a
  have K6 : Keep h0 h6 [a] := K2.wr W6 (Or.inl (List.mem_of_getElem? (i := 0) rfl))
  show GoP p e below Φ (T6.setTop (mkF m 14 #[.val (.ref a), .val (.ref b), .val (.int (0 : Int32))] []))
  exact own_ret0 X6 hx hby fin hret d_jdk_42_method_151_code_14 (by decide) (by decide) (by rw [e6]; exact ⟨rfl, N6, K6⟩)
theorem ef_rmVO (m : MethodId) (x0 : Int32) : entryFrame m #[(.int x0)] 1 = mkF m 0 #[.val (.int x0)] [] := by first | (simp [entryFrame, mkF, argsToLocals, Value.category]; done) | rfl
theorem d_jdk_42_method_139_code_0 : decode jdk_42_method_139_code 0 = .ok (.getstatic 38, 3) := by decide +kernel
theorem d_jdk_42_method_139_code_3 : decode jdk_42_method_139_code 3 = .ok (.ifCond .eq 23, 3) := by decide +kernel
theorem d_jdk_42_method_139_code_6 : decode jdk_42_method_139_code 6 = .ok (.iload_n 0, 1) := by decide +kernel
theorem d_jdk_42_method_139_code_7 : decode jdk_42_method_139_code 7 = .ok (.invokestatic 1015, 3) := by decide +kernel
theorem pd__C_Z : parseMethodDescriptor "(C)Z" = some ⟨[.char], some .boolean⟩ := by decide +kernel
theorem d_jdk_42_method_139_code_10 : decode jdk_42_method_139_code 10 = .ok (.ifCond .eq 16, 3) := by decide +kernel
theorem d_jdk_42_method_139_code_13 : decode jdk_42_method_139_code 13 = .ok (.new 10, 3) := by decide +kernel
theorem d_jdk_42_method_139_code_16 : decode jdk_42_method_139_code 16 = .ok (.dup, 1) := by decide +kernel
theorem d_jdk_42_method_139_code_17 : decode jdk_42_method_139_code 17 = .ok (.iload_n 0, 1) := by decide +kernel
theorem d_jdk_42_method_139_code_18 : decode jdk_42_method_139_code 18 = .ok (.invokestatic 1018, 3) := by decide +kernel
theorem pd__C__B : parseMethodDescriptor "(C)[B" = some ⟨[.char], some (.array .byte)⟩ := by decide +kernel
theorem d_jdk_42_method_139_code_21 : decode jdk_42_method_139_code 21 = .ok (.iconst 0, 1) := by decide +kernel
theorem d_jdk_42_method_139_code_22 : decode jdk_42_method_139_code 22 = .ok (.invokespecial 209, 3) := by decide +kernel
theorem pd___BB_V : parseMethodDescriptor "([BB)V" = some ⟨[(.array .byte), .byte], none⟩ := by decide +kernel
theorem d_jdk_42_method_139_code_25 : decode jdk_42_method_139_code 25 = .ok (.areturn, 1) := by decide +kernel
set_option maxRecDepth 65536 in
set_option maxHeartbeats 40000000 in
theorem rmVO (l : Launch) (Z : State) (a0 : Array Value) (hw : ∀ d ∈ tables_1, d.before a0 Z = true) (x cs : Int32) (n0 : Nat) (h0 : Heap) (hx0 : ¬ (255 : Int32) < x) (hcs : ¬ cs = (0 : Int32)) (Z0 : n0 ≤ h0.size) (Scs : Sta Z h0 "java/lang/String" "COMPACT_STRINGS" "Z" (.int cs)) : Con l Z (⟨"java/lang/String", "valueOf", "(C)Ljava/lang/String;"⟩ : MethodName) jdk_42_method_139_code 1 (some (.object "java/lang/String")) [] ({ frames := 2, cells := 2, slots := 5, locals := 30 } : Room) #[(.int x)] h0 (fun v h L => ∃ r : Addr, v = some (.ref r) ∧ Fr n0 L ∧ Keep h0 h [] ∧ h0.size ≤ r) := by
  refine Con.of (plainFor_of_name pn_java_lang_String) ?_
  intro p e s m below meth c T X hx hby hml hown hnm hret eT hZ hsh Φ fin
  replace hown : s.vm.findClass "java/lang/String" = some m.cls := hown
  replace hml : 1 = c.maxLocals := hml.symm
  refine own_step (fun t k => castTop (ef_rmVO m x) k) ?_
  have N0 := Fr.nil n0
  have K0 : Keep h0 h0 [] := Keep.refl h0 []
  obtain ⟨T1, X1, e1, st1⟩ := getS2 X hx hZ hown (host := "") (Or.inl (own_w hw 25 rfl)) Via.refl eT Scs (g := (mkF m 0 #[.val (.int x)] [])) rfl (hb hby d_jdk_42_method_139_code_0)
  refine own_step st1 ?_
  show GoP p e below Φ (T1.setTop (mkF m 3 #[.val (.int x)] [(.int cs)]))
  refine own_ifN X1 hx hby d_jdk_42_method_139_code_3 ((if0 _ _).trans (feq hcs).1) (pc' := 6) rfl ?_
  refine own_iloadN X1 hx hby d_jdk_42_method_139_code_6 rfl (pc' := 7) rfl ?_
  refine own_callS X1 hx hby hZ (by exact hml) hown (own_w hw 26 rfl) (own_w hw 27 rfl) (own_w hw 28 rfl) (own_w hw 29 rfl) (by decide) e1 0 (by decide) (by decide) (by decide) (by decide) (argsL := [(.int x)]) (rest := []) (lenOf pd__C_Z rfl) rfl (rmCE l Z a0 hw x h0 hx0) (Nat.le_of_eq rfl) d_jdk_42_method_139_code_7 (pc' := 10) rfl ?_
  intro v2 T2 L2 X2 hQ2
  obtain ⟨rfl, rfl, e2⟩ := hQ2
  rw [List.append_nil] at X2
  replace e2 : T2.heap = h0 := e2
  show GoP p e below Φ (T2.setTop (mkF m 10 #[.val (.int x)] [(.int (1 : Int32))]))
  refine own_ifN X2 hx hby d_jdk_42_method_139_code_10 ((if0 _ _).trans (feq (by decide)).1) (pc' := 13) rfl ?_
  obtain ⟨T3, h3, X3, e3, E3, A3, D3, -, st3⟩ := newO X2 hx hZ hown (own_w hw 30 rfl) (own_w hw 2 rfl) (own_w hw 3 rfl) e2 (g := (mkF m 13 #[.val (.int x)] [])) rfl (hb hby d_jdk_42_method_139_code_13) (by decide) (by decide)
  obtain ⟨b3, g3⟩ : ∃ z, z = h0.size := ⟨_, rfl⟩
  have S4_COMPACT_STRINGS := Scs.ext E3
  have Z3 : n0 ≤ h3.size := Nat.le_trans Z0 E3.1
  have n0_b3 : n0 ≤ b3 := g3 ▸ Z0
  have sz_b3 : h0.size ≤ b3 := g3 ▸ K0.1
  have K3 : Keep h0 h3 [] := K0.ext E3
  rw [← g3] at A3 D3 st3
  refine own_step st3 ?_
  have F3_value : Fld Z h3 b3 "java/lang/String" "value" "[B" .null := D3 (Or.inr (own_w hw 16 rfl)) (ty := (.array .byte)) (by decide)
  have F3_coder : Fld Z h3 b3 "java/lang/String" "coder" "B" (.int (0 : Int32)) := D3 (Or.inr (own_w hw 17 rfl)) (ty := .byte) (by decide)
  show GoP p e below Φ (T3.setTop (mkF m 16 #[.val (.int x)] [(.ref b3)]))
  refine own_dup X3 hx hby d_jdk_42_method_139_code_16 rfl (pc' := 17) rfl ?_
  refine own_iloadN X3 hx hby d_jdk_42_method_139_code_17 rfl (pc' := 18) rfl ?_
  refine own_callS X3 hx hby hZ (by exact hml) hown (own_w hw 31 rfl) (own_w hw 32 rfl) (own_w hw 28 rfl) (own_w hw 33 rfl) (by decide) e3 2 (by decide) (by decide) (by decide) (by decide) (argsL := [(.int x)]) (rest := [(.ref b3), (.ref b3)]) (lenOf pd__C__B rfl) rfl (rmTB l Z a0 hw x n0 h3 Z3) (Nat.le_of_eq rfl) d_jdk_42_method_139_code_18 (pc' := 21) rfl ?_
  intro v5 T5 L5 X5 hQ5
  obtain ⟨bb5, rfl, Nq5, K5, sb5⟩ := hQ5
  have E6_b3 := A3.keep K5
  have F7_value := F3_value.keep K5 nin0
  have F8_coder := F3_coder.keep K5 nin0
  have N5 := Fr.app N0 Nq5
  have Z5 : n0 ≤ T5.heap.size := Nat.le_trans Z3 K5.1
  have KK5 : Keep h0 T5.heap [] := K3.trans K5 all0
  show GoP p e below Φ (T5.setTop (mkF m 21 #[.val (.int x)] [(.ref bb5), (.ref b3), (.ref b3)]))
  refine own_iconst X5 hx hby d_jdk_42_method_139_code_21 (v := (0 : Int32)) rfl (pc' := 22) rfl ?_
  refine own_callI X5 hx hby hZ (by exact hml) hown rfl (own_w hw 34 rfl) (own_w hw 35 rfl) (own_w hw 3 rfl) (own_w hw 36 rfl) (by decide) rfl 1 (by decide) (by decide) (by decide) (by decide) (argsL := [(.ref bb5), (.int (0 : Int32))]) (rest := [(.ref b3)]) (lenOf pd___BB_V rfl) rfl (Nat.le_of_eq rfl) (rmIB l Z a0 hw b3 bb5 n0 T5.heap n0_b3 E6_b3 F8_coder F7_value) d_jdk_42_method_139_code_22 (pc' := 25) rfl ?_
  intro v9 T9 L9 X9 hQ9
  obtain ⟨rfl, Nq9, K9⟩ := hQ9
  have E10_b3 := E6_b3.keep K9
  have N9 := Fr.app N5 Nq9
  have Z9 : n0 ≤ T9.heap.size := Nat.le_trans Z5 K9.1
  have KK9 : Keep h0 T9.heap [] := KK5.trans K9 (allS (Or.inr sz_b3) all0)
  show GoP p e below Φ (T9.setTop (mkF m 25 #[.val (.int x)] [(.ref b3)]))
  exact own_retA X9 hx hby fin hret rfl rfl rfl d_jdk_42_method_139_code_25 (by decide) (by decide) ⟨b3, rfl, N9, KK9, sz_b3⟩
theorem own_chr (p : Int32) : ¬ (255 : Int32) < (nar .char ((p &&& (255 : Int32)).toUInt32.toUInt16.toUInt32.toInt32)) := by
  have a := c_mask p 255 8 (by decide) (by decide)
  have b := c_i2c (p &&& (255 : Int32))
  have c := c_i2c ((p &&& (255 : Int32)).toUInt32.toUInt16.toUInt32.toInt32)
  have e : (255 : Int32).toInt = 255 := by decide
  simp only [nar, Int32.lt_iff_toInt_lt, e]
  omega
theorem own_chr1 (p : Int32) : ¬ (255 : Int32) < ((p &&& (255 : Int32)).toUInt32.toUInt16.toUInt32.toInt32) := by
  have a := c_mask p 255 8 (by decide) (by decide)
  have b := c_i2c (p &&& (255 : Int32))
  have e : (255 : Int32).toInt = 255 := by decide
  simp only [Int32.lt_iff_toInt_lt, e]
  omega
theorem ef_rmRe (m : MethodId) (x0 : Addr) : entryFrame m #[(.ref x0)] 1 = mkF m 0 #[.val (.ref x0)] [] := by first | (simp [entryFrame, mkF, argsToLocals, Value.category]; done) | rfl
theorem pn_java_lang_Record : plainName "java/lang/Record" = true := by first | (simp [plainName, overriddenIn]; done) | decide +kernel
theorem d_jdk_30_method_1_code_0 : decode jdk_30_method_1_code 0 = .ok (.aload_n 0, 1) := by decide +kernel
theorem d_jdk_30_method_1_code_1 : decode jdk_30_method_1_code 1 = .ok (.invokespecial 1, 3) := by decide +kernel
theorem d_jdk_30_method_1_code_4 : decode jdk_30_method_1_code 4 = .ok (.return_, 1) := by decide +kernel
set_option maxRecDepth 65536 in
set_option maxHeartbeats 40000000 in
theorem rmRe (l : Launch) (Z : State) (a0 : Array Value) (hw : ∀ d ∈ tables_1, d.before a0 Z = true) (a : Addr) (h0 : Heap)  : Con l Z (⟨"java/lang/Record", "<init>", "()V"⟩ : MethodName) jdk_30_method_1_code 1 none [] ({ frames := 1, cells := 0, slots := 0, locals := 12 } : Room) #[(.ref a)] h0 (fun v h L => v = none ∧ L = [] ∧ h = h0) := by
  refine Con.of (plainFor_of_name pn_java_lang_Record) ?_
  intro p e s m below meth c T X hx hby hml hown hnm hret eT hZ hsh Φ fin
  replace hown : s.vm.findClass "java/lang/Record" = some m.cls := hown
  replace hml : 1 = c.maxLocals := hml.symm
  refine own_step (fun t k => castTop (ef_rmRe m a) k) ?_
  refine own_aloadN X hx hby d_jdk_30_method_1_code_0 rfl rfl (pc' := 1) rfl ?_
  obtain ⟨T1, X1, e1, st1⟩ := initO X hx hZ hown (own_w hw 48 rfl) (own_w hw 12 rfl) (own_w hw 13 rfl) eT (g := (mkF m 1 #[.val (.ref a)] [(.ref a)])) rfl hml rfl (hb hby d_jdk_30_method_1_code_1) (by decide) (W := 0) (by show 2 * 0 + _ ≤ _; exact Nat.le_of_eq rfl) (by decide)
  refine own_step st1 ?_
  show GoP p e below Φ (T1.setTop (mkF m 4 #[.val (.ref a)] []))
  exact own_ret0 X1 hx hby fin hret d_jdk_30_method_1_code_4 (by decide) (by decide) ⟨rfl, rfl, e1⟩
theorem ef_rmT_1NN (m : MethodId) (x0 : Addr) (x3 : Int32) : entryFrame m #[(.ref x0), .null, .null, (.int x3)] 4 = mkF m 0 #[.val (.ref x0), .val .null, .val .null, .val (.int x3)] [] := by first | (simp [entryFrame, mkF, argsToLocals, Value.category]; done) | rfl
theorem pn_com_example_tracemass_tracemass_nets_PetriNet_TransitionNode : plainName "com/example/tracemass/tracemass/nets/PetriNet$TransitionNode" = true := by first | (simp [plainName, overriddenIn]; done) | decide +kernel
theorem d_prog_42_method_1_code_0 : decode prog_42_method_1_code 0 = .ok (.aload_n 0, 1) := by decide +kernel
theorem d_prog_42_method_1_code_1 : decode prog_42_method_1_code 1 = .ok (.invokespecial 1, 3) := by decide +kernel
theorem pd___V : parseMethodDescriptor "()V" = some ⟨[], none⟩ := by decide +kernel
theorem d_prog_42_method_1_code_4 : decode prog_42_method_1_code 4 = .ok (.iload_n 3, 1) := by decide +kernel
theorem d_prog_42_method_1_code_5 : decode prog_42_method_1_code 5 = .ok (.ifCond .ne 21, 3) := by decide +kernel
theorem d_prog_42_method_1_code_26 : decode prog_42_method_1_code 26 = .ok (.aload_n 0, 1) := by decide +kernel
theorem d_prog_42_method_1_code_27 : decode prog_42_method_1_code 27 = .ok (.aload_n 1, 1) := by decide +kernel
theorem d_prog_42_method_1_code_28 : decode prog_42_method_1_code 28 = .ok (.putfield 16, 3) := by decide +kernel
theorem d_prog_42_method_1_code_31 : decode prog_42_method_1_code 31 = .ok (.aload_n 0, 1) := by decide +kernel
theorem d_prog_42_method_1_code_32 : decode prog_42_method_1_code 32 = .ok (.aload_n 2, 1) := by decide +kernel
theorem d_prog_42_method_1_code_33 : decode prog_42_method_1_code 33 = .ok (.putfield 22, 3) := by decide +kernel
theorem d_prog_42_method_1_code_36 : decode prog_42_method_1_code 36 = .ok (.aload_n 0, 1) := by decide +kernel
theorem d_prog_42_method_1_code_37 : decode prog_42_method_1_code 37 = .ok (.iload_n 3, 1) := by decide +kernel
theorem d_prog_42_method_1_code_38 : decode prog_42_method_1_code 38 = .ok (.putfield 25, 3) := by decide +kernel
theorem d_prog_42_method_1_code_41 : decode prog_42_method_1_code 41 = .ok (.return_, 1) := by decide +kernel
set_option maxRecDepth 65536 in
set_option maxHeartbeats 40000000 in
theorem rmT_1NN (l : Launch) (Z : State) (a0 : Array Value) (hw : ∀ d ∈ tables_1, d.before a0 Z = true) (a : Addr)   (n0 : Nat) (h0 : Heap) (n0_a : n0 ≤ a) (E : Exa Z h0 a "com/example/tracemass/tracemass/nets/PetriNet$TransitionNode") (F_id : Fld Z h0 a "com/example/tracemass/tracemass/nets/PetriNet$TransitionNode" "id" "Ljava/lang/String;" .null) (F_name : Fld Z h0 a "com/example/tracemass/tracemass/nets/PetriNet$TransitionNode" "name" "Ljava/lang/String;" .null) (F_silent : Fld Z h0 a "com/example/tracemass/tracemass/nets/PetriNet$TransitionNode" "silent" "Z" (.int (0 : Int32))) : Con l Z (⟨"com/example/tracemass/tracemass/nets/PetriNet$TransitionNode", "<init>", "(Ljava/lang/String;Ljava/lang/String;Z)V"⟩ : MethodName) prog_42_method_1_code 4 none [] ({ frames := 2, cells := 0, slots := 0, locals := 24 } : Room) #[(.ref a), .null, .null, (.int (1 : Int32))] h0 (fun v h L => v = none ∧ Fr n0 L ∧ Keep h0 h [a] ∧ Exa Z h a "com/example/tracemass/tracemass/nets/PetriNet$TransitionNode" ∧ Fld Z h a "com/example/tracemass/tracemass/nets/PetriNet$TransitionNode" "name" "Ljava/lang/String;" .null ∧ Fld Z h a "com/example/tracemass/tracemass/nets/PetriNet$TransitionNode" "silent" "Z" (.int (1 : Int32))) := by
  refine Con.of (plainFor_of_name pn_com_example_tracemass_tracemass_nets_PetriNet_TransitionNode) ?_
  intro p e s m below meth c T X hx hby hml hown hnm hret eT hZ hsh Φ fin
  replace hown : s.vm.findClass "com/example/tracemass/tracemass/nets/PetriNet$TransitionNode" = some m.cls := hown
  replace hml : 4 = c.maxLocals := hml.symm
  refine own_step (fun t k => castTop (ef_rmT_1NN m a (1 : Int32)) k) ?_
  have N0 := Fr.nil n0
  have K0 : Keep h0 h0 [a] := Keep.refl h0 [a]
  refine own_aloadN X hx hby d_prog_42_method_1_code_0 rfl rfl (pc' := 1) rfl ?_
  refine own_callI X hx hby hZ (by exact hml) hown rfl (own_w hw 43 rfl) (own_w hw 44 rfl) (own_w hw 46 rfl) (own_w hw 47 rfl) (by decide) eT 0 (by decide) (by decide) (by decide) (by decide) (argsL := []) (rest := []) (lenOf pd___V rfl) rfl (Nat.le_of_eq rfl) (rmRe l Z a0 hw a h0) d_prog_42_method_1_code_1 (pc' := 4) rfl ?_
  intro v1 T1 L1 X1 hQ1
  obtain ⟨rfl, rfl, e1⟩ := hQ1
  rw [List.append_nil] at X1
  replace e1 : T1.heap = h0 := e1
  show GoP p e below Φ (T1.setTop (mkF m 4 #[.val (.ref a), .val .null, .val .null, .val (.int (1 : Int32))] []))
  refine own_iloadN X1 hx hby d_prog_42_method_1_code_4 rfl (pc' := 5) rfl ?_
  refine own_ifY X1 hx hby d_prog_42_method_1_code_5 ((if0 _ _).trans (feq (by decide)).2) (by decide) (pc' := 26) (by decide) ?_
  refine own_aloadN X1 hx hby d_prog_42_method_1_code_26 rfl rfl (pc' := 27) rfl ?_
  refine own_aloadN X1 hx hby d_prog_42_method_1_code_27 rfl rfl (pc' := 28) rfl ?_
  obtain ⟨T2, h2, X2, e2, W2, st2⟩ := putF X1 hx hZ hown (host := "") (Or.inl (own_w hw 49 rfl)) Via.refl e1 F_id E (Or.inr ⟨(own_w hw 50 rfl), rfl, hnm⟩) (own_w hw 38 rfl) (ty := (.object "java/lang/String")) (by decide) rfl rfl (g := (mkF m 28 #[.val (.ref a), .val .null, .val .null, .val (.int (1 : Int32))] [.null, (.ref a)])) rfl rfl (hb hby d_prog_42_method_1_code_28)
  refine own_step st2 ?_
  have E3_a := E.wr W2
  have F4_id := F_id.same W2
  have F5_name := F_name.other W2 (Or.inr (slot_ne (Or.inr (own_w hw 52 rfl)) (Or.inr (own_w hw 50 rfl)) (by decide) (t := (.object "java/lang/String")) (t' := (.object "java/lang/String")) (by decide) (by decide)))
  have F6_silent := F_silent.other W2 (Or.inr (slot_ne (Or.inr (own_w hw 54 rfl)) (Or.inr (own_w hw 50 rfl)) (by decide) (t := .boolean) (t' := (.object "java/lang/String")) (by decide) (by decide)))
  have N2 := Fr.snoc X2 N0 n0_a
  have K2 : Keep h0 h2 [a] := K0.wr W2 (Or.inl (List.mem_of_getElem? (i := 0) rfl))
  show GoP p e below Φ (T2.setTop (mkF m 31 #[.val (.ref a), .val .null, .val .null, .val (.int (1 : Int32))] []))
  refine own_aloadN X2 hx hby d_prog_42_method_1_code_31 rfl rfl (pc' := 32) rfl ?_
  refine own_aloadN X2 hx hby d_prog_42_method_1_code_32 rfl rfl (pc' := 33) rfl ?_
  obtain ⟨T7, h7, X7, e7, W7, st7⟩ := putF X2 hx hZ hown (host := "") (Or.inl (own_w hw 51 rfl)) Via.refl e2 F5_name E3_a (Or.inr ⟨(own_w hw 52 rfl), rfl, hnm⟩) (own_w hw 38 rfl) (ty := (.object "java/lang/String")) (by decide) rfl rfl (g := (mkF m 33 #[.val (.ref a), .val .null, .val .null, .val (.int (1 : Int32))] [.null, (.ref a)])) rfl rfl (hb hby d_prog_42_method_1_code_33)
  refine own_step st7 ?_
  have E8_a := E3_a.wr W7
  have F9_id := F4_id.other W7 (Or.inr (slot_ne (Or.inr (own_w hw 50 rfl)) (Or.inr (own_w hw 52 rfl)) (by decide) (t := (.object "java/lang/String")) (t' := (.object "java/lang/String")) (by decide) (by decide)))
  have F10_name := F5_name.same W7
  have F11_silent := F6_silent.other W7 (Or.inr (slot_ne (Or.inr (own_w hw 54 rfl)) (Or.inr (own_w hw 52 rfl)) (by decide) (t := .boolean) (t' := (.object "java/lang/String")) (by decide) (by decide)))
  have N7 := Fr.snoc X7 N2 n0_a
  have K7 : Keep h0 h7 [a] := K2.wr W7 (Or.inl (List.mem_of_getElem? (i := 0) rfl))
  show GoP p e below Φ (T7.setTop (mkF m 36 #[.val (.ref a), .val .null, .val .null, .val (.int (1 : Int32))] []))
  refine own_aloadN X7 hx hby d_prog_42_method_1_code_36 rfl rfl (pc' := 37) rfl ?_
  refine own_iloadN X7 hx hby d_prog_42_method_1_code_37 rfl (pc' := 38) rfl ?_
  obtain ⟨T12, h12, X12, e12, W12, st12⟩ := putFN X7 hx hZ hown (own_w hw 53 rfl) Via.refl e7 F11_silent E8_a (Or.inr ⟨(own_w hw 54 rfl), rfl, hnm⟩) (own_w hw 38 rfl) (ty := .boolean) (v' := (.int (1 : Int32))) (by decide) rfl (by decide) (g := (mkF m 38 #[.val (.ref a), .val .null, .val .null, .val (.int (1 : Int32))] [(.int (1 : Int32)), (.ref a)])) rfl rfl (hb hby d_prog_42_method_1_code_38)
  refine own_step st12 ?_
  have E13_a := E8_a.wr W12
  have F14_id := F9_id.other W12 (Or.inr (slot_ne (Or.inr (own_w hw 50 rfl)) (Or.inr (own_w hw 54 rfl)) (by decide) (t := (.object "java/lang/String")) (t' := .boolean) (by decide) (by decide)))
  have F15_name := F10_name.other W12 (Or.inr (slot_ne (Or.inr (own_w hw 52 rfl)) (Or.inr (own_w hw 54 rfl)) (by decide) (t := (.object "java/lang/String")) (t' := .boolean) (by decide) (by decide)))
  have F16_silent := F11_silent.same W12
  have N12 := Fr.snoc X12 N7 n0_a
  have K12 : Keep h0 h12 [a] := K7.wr W12 (Or.inl (List.mem_of_getElem? (i := 0) rfl))
  show GoP p e below Φ (T12.setTop (mkF m 41 #[.val (.ref a), .val .null, .val .null, .val (.int (1 : Int32))] []))
  exact own_ret0 X12 hx hby fin hret d_prog_42_method_1_code_41 (by decide) (by decide) (by rw [e12]; exact ⟨rfl, N12, K12, E13_a, F15_name, F16_silent⟩)
theorem ef_rmT_1NR (m : MethodId) (x0 : Addr) (x2 : Addr) (x3 : Int32) : entryFrame m #[(.ref x0), .null, (.ref x2), (.int x3)] 4 = mkF m 0 #[.val (.ref x0), .val .null, .val (.ref x2), .val (.int x3)] [] := by first | (simp [entryFrame, mkF, argsToLocals, Value.category]; done) | rfl
set_option maxRecDepth 65536 in
set_option maxHeartbeats 40000000 in
theorem rmT_1NR (l : Launch) (Z : State) (a0 : Array Value) (hw : ∀ d ∈ tables_1, d.before a0 Z = true) (a : Addr)  (an : Addr) (n0 : Nat) (h0 : Heap) (n0_a : n0 ≤ a) (E : Exa Z h0 a "com/example/tracemass/tracemass/nets/PetriNet$TransitionNode") (F_id : Fld Z h0 a "com/example/tracemass/tracemass/nets/PetriNet$TransitionNode" "id" "Ljava/lang/String;" .null) (F_name : Fld Z h0 a "com/example/tracemass/tracemass/nets/PetriNet$TransitionNode" "name" "Ljava/lang/String;" .null) (F_silent : Fld Z h0 a "com/example/tracemass/tracemass/nets/PetriNet$TransitionNode" "silent" "Z" (.int (0 : Int32))) : Con l Z (⟨"com/example/tracemass/tracemass/nets/PetriNet$TransitionNode", "<init>", "(Ljava/lang/String;Ljava/lang/String;Z)V"⟩ : MethodName) prog_42_method_1_code 4 none [] ({ frames := 2, cells := 0, slots := 0, locals := 24 } : Room) #[(.ref a), .null, (.ref an), (.int (1 : Int32))] h0 (fun v h L => v = none ∧ Fr n0 L ∧ Keep h0 h [a] ∧ Exa Z h a "com/example/tracemass/tracemass/nets/PetriNet$TransitionNode" ∧ Fld Z h a "com/example/tracemass/tracemass/nets/PetriNet$TransitionNode" "name" "Ljava/lang/String;" (.ref an) ∧ Fld Z h a "com/example/tracemass/tracemass/nets/PetriNet$TransitionNode" "silent" "Z" (.int (1 : Int32))) := by
  refine Con.of (plainFor_of_name pn_com_example_tracemass_tracemass_nets_PetriNet_TransitionNode) ?_
  intro p e s m below meth c T X hx hby hml hown hnm hret eT hZ hsh Φ fin
  replace hown : s.vm.findClass "com/example/tracemass/tracemass/nets/PetriNet$TransitionNode" = some m.cls := hown
  replace hml : 4 = c.maxLocals := hml.symm
  refine own_step (fun t k => castTop (ef_rmT_1NR m a an (1 : Int32)) k) ?_
  have N0 := Fr.nil n0
  have K0 : Keep h0 h0 [a] := Keep.refl h0 [a]
  refine own_aloadN X hx hby d_prog_42_method_1_code_0 rfl rfl (pc' := 1) rfl ?_
  refine own_callI X hx hby hZ (by exact hml) hown rfl (own_w hw 43 rfl) (own_w hw 44 rfl) (own_w hw 46 rfl) (own_w hw 47 rfl) (by decide) eT 0 (by decide) (by decide) (by decide) (by decide) (argsL := []) (rest := []) (lenOf pd___V rfl) rfl (Nat.le_of_eq rfl) (rmRe l Z a0 hw a h0) d_prog_42_method_1_code_1 (pc' := 4) rfl ?_
  intro v1 T1 L1 X1 hQ1
  obtain ⟨rfl, rfl, e1⟩ := hQ1
  rw [List.append_nil] at X1
  replace e1 : T1.heap = h0 := e1
  show GoP p e below Φ (T1.setTop (mkF m 4 #[.val (.ref a), .val .null, .val (.ref an), .val (.int (1 : Int32))] []))
  refine own_iloadN X1 hx hby d_prog_42_method_1_code_4 rfl (pc' := 5) rfl ?_
  refine own_ifY X1 hx hby d_prog_42_method_1_code_5 ((if0 _ _).trans (feq (by decide)).2) (by decide) (pc' := 26) (by decide) ?_
  refine own_aloadN X1 hx hby d_prog_42_method_1_code_26 rfl rfl (pc' := 27) rfl ?_
  refine own_aloadN X1 hx hby d_prog_42_method_1_code_27 rfl rfl (pc' := 28) rfl ?_
  obtain ⟨T2, h2, X2, e2, W2, st2⟩ := putF X1 hx hZ hown (host := "") (Or.inl (own_w hw 49 rfl)) Via.refl e1 F_id E (Or.inr ⟨(own_w hw 50 rfl), rfl, hnm⟩) (own_w hw 38 rfl) (ty := (.object "java/lang/String")) (by decide) rfl rfl (g := (mkF m 28 #[.val (.ref a), .val .null, .val (.ref an), .val (.int (1 : Int32))] [.null, (.ref a)])) rfl rfl (hb hby d_prog_42_method_1_code_28)
  refine own_step st2 ?_
  have E3_a := E.wr W2
  have F4_id := F_id.same W2
  have F5_name := F_name.other W2 (Or.inr (slot_ne (Or.inr (own_w hw 52 rfl)) (Or.inr (own_w hw 50 rfl)) (by decide) (t := (.object "java/lang/String")) (t' := (.object "java/lang/String")) (by decide) (by decide)))
  have F6_silent := F_silent.other W2 (Or.inr (slot_ne (Or.inr (own_w hw 54 rfl)) (Or.inr (own_w hw 50 rfl)) (by decide) (t := .boolean) (t' := (.object "java/lang/String")) (by decide) (by decide)))
  have N2 := Fr.snoc X2 N0 n0_a
  have K2 : Keep h0 h2 [a] := K0.wr W2 (Or.inl (List.mem_of_getElem? (i := 0) rfl))
  show GoP p e below Φ (T2.setTop (mkF m 31 #[.val (.ref a), .val .null, .val (.ref an), .val (.int (1 : Int32))] []))
  refine own_aloadN X2 hx hby d_prog_42_method_1_code_31 rfl rfl (pc' := 32) rfl ?_
  refine own_aloadN X2 hx hby d_prog_42_method_1_code_32 rfl rfl (pc' := 33) rfl ?_
  obtain ⟨T7, h7, X7, e7, W7, st7⟩ := putF X2 hx hZ hown (host := "") (Or.inl (own_w hw 51 rfl)) Via.refl e2 F5_name E3_a (Or.inr ⟨(own_w hw 52 rfl), rfl, hnm⟩) (own_w hw 38 rfl) (ty := (.object "java/lang/String")) (by decide) rfl rfl (g := (mkF m 33 #[.val (.ref a), .val .null, .val (.ref an), .val (.int (1 : Int32))] [(.ref an), (.ref a)])) rfl rfl (hb hby d_prog_42_method_1_code_33)
  refine own_step st7 ?_
  have E8_a := E3_a.wr W7
  have F9_id := F4_id.other W7 (Or.inr (slot_ne (Or.inr (own_w hw 50 rfl)) (Or.inr (own_w hw 52 rfl)) (by decide) (t := (.object "java/lang/String")) (t' := (.object "java/lang/String")) (by decide) (by decide)))
  have F10_name := F5_name.same W7
  have F11_silent := F6_silent.other W7 (Or.inr (slot_ne (Or.inr (own_w hw 54 rfl)) (Or.inr (own_w hw 52 rfl)) (by decide) (t := .boolean) (t' := (.object "java/lang/String")) (by decide) (by decide)))
  have N7 := Fr.snoc X7 N2 n0_a
  have K7 : Keep h0 h7 [a] := K2.wr W7 (Or.inl (List.mem_of_getElem? (i := 0) rfl))
  show GoP p e below Φ (T7.setTop (mkF m 36 #[.val (.ref a), .val .null, .val (.ref an), .val (.int (1 : Int32))] []))
  refine own_aloadN X7 hx hby d_prog_42_method_1_code_36 rfl rfl (pc' := 37) rfl ?_
  refine own_iloadN X7 hx hby d_prog_42_method_1_code_37 rfl (pc' := 38) rfl ?_
  obtain ⟨T12, h12, X12, e12, W12, st12⟩ := putFN X7 hx hZ hown (own_w hw 53 rfl) Via.refl e7 F11_silent E8_a (Or.inr ⟨(own_w hw 54 rfl), rfl, hnm⟩) (own_w hw 38 rfl) (ty := .boolean) (v' := (.int (1 : Int32))) (by decide) rfl (by decide) (g := (mkF m 38 #[.val (.ref a), .val .null, .val (.ref an), .val (.int (1 : Int32))] [(.int (1 : Int32)), (.ref a)])) rfl rfl (hb hby d_prog_42_method_1_code_38)
  refine own_step st12 ?_
  have E13_a := E8_a.wr W12
  have F14_id := F9_id.other W12 (Or.inr (slot_ne (Or.inr (own_w hw 50 rfl)) (Or.inr (own_w hw 54 rfl)) (by decide) (t := (.object "java/lang/String")) (t' := .boolean) (by decide) (by decide)))
  have F15_name := F10_name.other W12 (Or.inr (slot_ne (Or.inr (own_w hw 52 rfl)) (Or.inr (own_w hw 54 rfl)) (by decide) (t := (.object "java/lang/String")) (t' := .boolean) (by decide) (by decide)))
  have F16_silent := F11_silent.same W12
  have N12 := Fr.snoc X12 N7 n0_a
  have K12 : Keep h0 h12 [a] := K7.wr W12 (Or.inl (List.mem_of_getElem? (i := 0) rfl))
  show GoP p e below Φ (T12.setTop (mkF m 41 #[.val (.ref a), .val .null, .val (.ref an), .val (.int (1 : Int32))] []))
  exact own_ret0 X12 hx hby fin hret d_prog_42_method_1_code_41 (by decide) (by decide) (by rw [e12]; exact ⟨rfl, N12, K12, E13_a, F15_name, F16_silent⟩)
theorem ef_rmT_1RN (m : MethodId) (x0 : Addr) (x1 : Addr) (x3 : Int32) : entryFrame m #[(.ref x0), (.ref x1), .null, (.int x3)] 4 = mkF m 0 #[.val (.ref x0), .val (.ref x1), .val .null, .val (.int x3)] [] := by first | (simp [entryFrame, mkF, argsToLocals, Value.category]; done) | rfl
set_option maxRecDepth 65536 in
set_option maxHeartbeats 40000000 in
theorem rmT_1RN (l : Launch) (Z : State) (a0 : Array Value) (hw : ∀ d ∈ tables_1, d.before a0 Z = true) (a : Addr) (ai : Addr)  (n0 : Nat) (h0 : Heap) (n0_a : n0 ≤ a) (E : Exa Z h0 a "com/example/tracemass/tracemass/nets/PetriNet$TransitionNode") (F_id : Fld Z h0 a "com/example/tracemass/tracemass/nets/PetriNet$TransitionNode" "id" "Ljava/lang/String;" .null) (F_name : Fld Z h0 a "com/example/tracemass/tracemass/nets/PetriNet$TransitionNode" "name" "Ljava/lang/String;" .null) (F_silent : Fld Z h0 a "com/example/tracemass/tracemass/nets/PetriNet$TransitionNode" "silent" "Z" (.int (0 : Int32))) : Con l Z (⟨"com/example/tracemass/tracemass/nets/PetriNet$TransitionNode", "<init>", "(Ljava/lang/String;Ljava/lang/String;Z)V"⟩ : MethodName) prog_42_method_1_code 4 none [] ({ frames := 2, cells := 0, slots := 0, locals := 24 } : Room) #[(.ref a), (.ref ai), .null, (.int (1 : Int32))] h0 (fun v h L => v = none ∧ Fr n0 L ∧ Keep h0 h [a] ∧ Exa Z h a "com/example/tracemass/tracemass/nets/PetriNet$TransitionNode" ∧ Fld Z h a "com/example/tracemass/tracemass/nets/PetriNet$TransitionNode" "name" "Ljava/lang/String;" .null ∧ Fld Z h a "com/example/tracemass/tracemass/nets/PetriNet$TransitionNode" "silent" "Z" (.int (1 : Int32))) := by
  refine Con.of (plainFor_of_name pn_com_example_tracemass_tracemass_nets_PetriNet_TransitionNode) ?_
  intro p e s m below meth c T X hx hby hml hown hnm hret eT hZ hsh Φ fin
  replace hown : s.vm.findClass "com/example/tracemass/tracemass/nets/PetriNet$TransitionNode" = some m.cls := hown
  replace hml : 4 = c.maxLocals := hml.symm
  refine own_step (fun t k => castTop (ef_rmT_1RN m a ai (1 : Int32)) k) ?_
  have N0 := Fr.nil n0
  have K0 : Keep h0 h0 [a] := Keep.refl h0 [a]
  refine own_aloadN X hx hby d_prog_42_method_1_code_0 rfl rfl (pc' := 1) rfl ?_
  refine own_callI X hx hby hZ (by exact hml) hown rfl (own_w hw 43 rfl) (own_w hw 44 rfl) (own_w hw 46 rfl) (own_w hw 47 rfl) (by decide) eT 0 (by decide) (by decide) (by decide) (by decide) (argsL := []) (rest := []) (lenOf pd___V rfl) rfl (Nat.le_of_eq rfl) (rmRe l Z a0 hw a h0) d_prog_42_method_1_code_1 (pc' := 4) rfl ?_
  intro v1 T1 L1 X1 hQ1
  obtain ⟨rfl, rfl, e1⟩ := hQ1
  rw [List.append_nil] at X1
  replace e1 : T1.heap = h0 := e1
  show GoP p e below Φ (T1.setTop (mkF m 4 #[.val (.ref a), .val (.ref ai), .val .null, .val (.int (1 : Int32))] []))
  refine own_iloadN X1 hx hby d_prog_42_method_1_code_4 rfl (pc' := 5) rfl ?_
  refine own_ifY X1 hx hby d_prog_42_method_1_code_5 ((if0 _ _).trans (feq (by decide)).2) (by decide) (pc' := 26) (by decide) ?_
  refine own_aloadN X1 hx hby d_prog_42_method_1_code_26 rfl rfl (pc' := 27) rfl ?_
  refine own_aloadN X1 hx hby d_prog_42_method_1_code_27 rfl rfl (pc' := 28) rfl ?_
  obtain ⟨T2, h2, X2, e2, W2, st2⟩ := putF X1 hx hZ hown (host := "") (Or.inl (own_w hw 49 rfl)) Via.refl e1 F_id E (Or.inr ⟨(own_w hw 50 rfl), rfl, hnm⟩) (own_w hw 38 rfl) (ty := (.object "java/lang/String")) (by decide) rfl rfl (g := (mkF m 28 #[.val (.ref a), .val (.ref ai), .val .null, .val (.int (1 : Int32))] [(.ref ai), (.ref a)])) rfl rfl (hb hby d_prog_42_method_1_code_28)
  refine own_step st2 ?_
  have E3_a := E.wr W2
  have F4_id := F_id.same W2
  have F5_name := F_name.other W2 (Or.inr (slot_ne (Or.inr (own_w hw 52 rfl)) (Or.inr (own_w hw 50 rfl)) (by decide) (t := (.object "java/lang/String")) (t' := (.object "java/lang/String")) (by decide) (by decide)))
  have F6_silent := F_silent.other W2 (Or.inr (slot_ne (Or.inr (own_w hw 54 rfl)) (Or.inr (own_w hw 50 rfl)) (by decide) (t := .boolean) (t' := (.object "java/lang/String")) (by decide) (by decide)))
  have N2 := Fr.snoc X2 N0 n0_a
  have K2 : Keep h0 h2 [a] := K0.wr W2 (Or.inl (List.mem_of_getElem? (i := 0) rfl))
  show GoP p e below Φ (T2.setTop (mkF m 31 #[.val (.ref a), .val (.ref ai), .val .null, .val (.int (1 : Int32))] []))
  refine own_aloadN X2 hx hby d_prog_42_method_1_code_31 rfl rfl (pc' := 32) rfl ?_
  refine own_aloadN X2 hx hby d_prog_42_method_1_code_32 rfl rfl (pc' := 33) rfl ?_
  obtain ⟨T7, h7, X7, e7, W7, st7⟩ := putF X2 hx hZ hown (host := "") (Or.inl (own_w hw 51 rfl)) Via.refl e2 F5_name E3_a (Or.inr ⟨(own_w hw 52 rfl), rfl, hnm⟩) (own_w hw 38 rfl) (ty := (.object "java/lang/String")) (by decide) rfl rfl (g := (mkF m 33 #[.val (.ref a), .val (.ref ai), .val .null, .val (.int (1 : Int32))] [.null, (.ref a)])) rfl rfl (hb hby d_prog_42_method_1_code_33)
  refine own_step st7 ?_
  have E8_a := E3_a.wr W7
  have F9_id := F4_id.other W7 (Or.inr (slot_ne (Or.inr (own_w hw 50 rfl)) (Or.inr (own_w hw 52 rfl)) (by decide) (t := (.object "java/lang/String")) (t' := (.object "java/lang/String")) (by decide) (by decide)))
  have F10_name := F5_name.same W7
  have F11_silent := F6_silent.other W7 (Or.inr (slot_ne (Or.inr (own_w hw 54 rfl)) (Or.inr (own_w hw 52 rfl)) (by decide) (t := .boolean) (t' := (.object "java/lang/String")) (by decide) (by decide)))
  have N7 := Fr.snoc X7 N2 n0_a
  have K7 : Keep h0 h7 [a] := K2.wr W7 (Or.inl (List.mem_of_getElem? (i := 0) rfl))
  show GoP p e below Φ (T7.setTop (mkF m 36 #[.val (.ref a), .val (.ref ai), .val .null, .val (.int (1 : Int32))] []))
  refine own_aloadN X7 hx hby d_prog_42_method_1_code_36 rfl rfl (pc' := 37) rfl ?_
  refine own_iloadN X7 hx hby d_prog_42_method_1_code_37 rfl (pc' := 38) rfl ?_
  obtain ⟨T12, h12, X12, e12, W12, st12⟩ := putFN X7 hx hZ hown (own_w hw 53 rfl) Via.refl e7 F11_silent E8_a (Or.inr ⟨(own_w hw 54 rfl), rfl, hnm⟩) (own_w hw 38 rfl) (ty := .boolean) (v' := (.int (1 : Int32))) (by decide) rfl (by decide) (g := (mkF m 38 #[.val (.ref a), .val (.ref ai), .val .null, .val (.int (1 : Int32))] [(.int (1 : Int32)), (.ref a)])) rfl rfl (hb hby d_prog_42_method_1_code_38)
  refine own_step st12 ?_
  have E13_a := E8_a.wr W12
  have F14_id := F9_id.other W12 (Or.inr (slot_ne (Or.inr (own_w hw 50 rfl)) (Or.inr (own_w hw 54 rfl)) (by decide) (t := (.object "java/lang/String")) (t' := .boolean) (by decide) (by decide)))
  have F15_name := F10_name.other W12 (Or.inr (slot_ne (Or.inr (own_w hw 52 rfl)) (Or.inr (own_w hw 54 rfl)) (by decide) (t := (.object "java/lang/String")) (t' := .boolean) (by decide) (by decide)))
  have F16_silent := F11_silent.same W12
  have N12 := Fr.snoc X12 N7 n0_a
  have K12 : Keep h0 h12 [a] := K7.wr W12 (Or.inl (List.mem_of_getElem? (i := 0) rfl))
  show GoP p e below Φ (T12.setTop (mkF m 41 #[.val (.ref a), .val (.ref ai), .val .null, .val (.int (1 : Int32))] []))
  exact own_ret0 X12 hx hby fin hret d_prog_42_method_1_code_41 (by decide) (by decide) (by rw [e12]; exact ⟨rfl, N12, K12, E13_a, F15_name, F16_silent⟩)
theorem ef_rmT_1RR (m : MethodId) (x0 : Addr) (x1 : Addr) (x2 : Addr) (x3 : Int32) : entryFrame m #[(.ref x0), (.ref x1), (.ref x2), (.int x3)] 4 = mkF m 0 #[.val (.ref x0), .val (.ref x1), .val (.ref x2), .val (.int x3)] [] := by first | (simp [entryFrame, mkF, argsToLocals, Value.category]; done) | rfl
set_option maxRecDepth 65536 in
set_option maxHeartbeats 40000000 in
theorem rmT_1RR (l : Launch) (Z : State) (a0 : Array Value) (hw : ∀ d ∈ tables_1, d.before a0 Z = true) (a : Addr) (ai : Addr) (an : Addr) (n0 : Nat) (h0 : Heap) (n0_a : n0 ≤ a) (E : Exa Z h0 a "com/example/tracemass/tracemass/nets/PetriNet$TransitionNode") (F_id : Fld Z h0 a "com/example/tracemass/tracemass/nets/PetriNet$TransitionNode" "id" "Ljava/lang/String;" .null) (F_name : Fld Z h0 a "com/example/tracemass/tracemass/nets/PetriNet$TransitionNode" "name" "Ljava/lang/String;" .null) (F_silent : Fld Z h0 a "com/example/tracemass/tracemass/nets/PetriNet$TransitionNode" "silent" "Z" (.int (0 : Int32))) : Con l Z (⟨"com/example/tracemass/tracemass/nets/PetriNet$TransitionNode", "<init>", "(Ljava/lang/String;Ljava/lang/String;Z)V"⟩ : MethodName) prog_42_method_1_code 4 none [] ({ frames := 2, cells := 0, slots := 0, locals := 24 } : Room) #[(.ref a), (.ref ai), (.ref an), (.int (1 : Int32))] h0 (fun v h L => v = none ∧ Fr n0 L ∧ Keep h0 h [a] ∧ Exa Z h a "com/example/tracemass/tracemass/nets/PetriNet$TransitionNode" ∧ Fld Z h a "com/example/tracemass/tracemass/nets/PetriNet$TransitionNode" "name" "Ljava/lang/String;" (.ref an) ∧ Fld Z h a "com/example/tracemass/tracemass/nets/PetriNet$TransitionNode" "silent" "Z" (.int (1 : Int32))) := by
  refine Con.of (plainFor_of_name pn_com_example_tracemass_tracemass_nets_PetriNet_TransitionNode) ?_
  intro p e s m below meth c T X hx hby hml hown hnm hret eT hZ hsh Φ fin
  replace hown : s.vm.findClass "com/example/tracemass/tracemass/nets/PetriNet$TransitionNode" = some m.cls := hown
  replace hml : 4 = c.maxLocals := hml.symm
  refine own_step (fun t k => castTop (ef_rmT_1RR m a ai an (1 : Int32)) k) ?_
  have N0 := Fr.nil n0
  have K0 : Keep h0 h0 [a] := Keep.refl h0 [a]
  refine own_aloadN X hx hby d_prog_42_method_1_code_0 rfl rfl (pc' := 1) rfl ?_
  refine own_callI X hx hby hZ (by exact hml) hown rfl (own_w hw 43 rfl) (own_w hw 44 rfl) (own_w hw 46 rfl) (own_w hw 47 rfl) (by decide) eT 0 (by decide) (by decide) (by decide) (by decide) (argsL := []) (rest := []) (lenOf pd___V rfl) rfl (Nat.le_of_eq rfl) (rmRe l Z a0 hw a h0) d_prog_42_method_1_code_1 (pc' := 4) rfl ?_
  intro v1 T1 L1 X1 hQ1
  obtain ⟨rfl, rfl, e1⟩ := hQ1
  rw [List.append_nil] at X1
  replace e1 : T1.heap = h0 := e1
  show GoP p e below Φ (T1.setTop (mkF m 4 #[.val (.ref a), .val (.ref ai), .val (.ref an), .val (.int (1 : Int32))] []))
  refine own_iloadN X1 hx hby d_prog_42_method_1_code_4 rfl (pc' := 5) rfl ?_
  refine own_ifY X1 hx hby d_prog_42_method_1_code_5 ((if0 _ _).trans (feq (by decide)).2) (by decide) (pc' := 26) (by decide) ?_
  refine own_aloadN X1 hx hby d_prog_42_method_1_code_26 rfl rfl (pc' := 27) rfl ?_
  refine own_aloadN X1 hx hby d_prog_42_method_1_code_27 rfl rfl (pc' := 28) rfl ?_
  obtain ⟨T2, h2, X2, e2, W2, st2⟩ := putF X1 hx hZ hown (host := "") (Or.inl (own_w hw 49 rfl)) Via.refl e1 F_id E (Or.inr ⟨(own_w hw 50 rfl), rfl, hnm⟩) (own_w hw 38 rfl) (ty := (.object "java/lang/String")) (by decide) rfl rfl (g := (mkF m 28 #[.val (.ref a), .val (.ref ai), .val (.ref an), .val (.int (1 : Int32))] [(.ref ai), (.ref a)])) rfl rfl (hb hby d_prog_42_method_1_code_28)
  refine own_step st2 ?_
  have E3_a := E.wr W2
  have F4_id := F_id.same W2
  have F5_name := F_name.other W2 (Or.inr (slot_ne (Or.inr (own_w hw 52 rfl)) (Or.inr (own_w hw 50 rfl)) (by decide) (t := (.object "java/lang/String")) (t' := (.object "java/lang/String")) (by decide) (by decide)))
  have F6_silent := F_silent.other W2 (Or.inr (slot_ne (Or.inr (own_w hw 54 rfl)) (Or.inr (own_w hw 50 rfl)) (by decide) (t := .boolean) (t' := (.object "java/lang/String")) (by decide) (by decide)))
  have N2 := Fr.snoc X2 N0 n0_a
  have K2 : Keep h0 h2 [a] := K0.wr W2 (Or.inl (List.mem_of_getElem? (i := 0) rfl))
  show GoP p e below Φ (T2.setTop (mkF m 31 #[.val (.ref a), .val (.ref ai), .val (.ref an), .val (.int (1 : Int32))] []))
  refine own_aloadN X2 hx hby d_prog_42_method_1_code_31 rfl rfl (pc' := 32) rfl ?_
  refine own_aloadN X2 hx hby d_prog_42_method_1_code_32 rfl rfl (pc' := 33) rfl ?_
  obtain ⟨T7, h7, X7, e7, W7, st7⟩ := putF X2 hx hZ hown (host := "") (Or.inl (own_w hw 51 rfl)) Via.refl e2 F5_name E3_a (Or.inr ⟨(own_w hw 52 rfl), rfl, hnm⟩) (own_w hw 38 rfl) (ty := (.object "java/lang/String")) (by decide) rfl rfl (g := (mkF m 33 #[.val (.ref a), .val (.ref ai), .val (.ref an), .val (.int (1 : Int32))] [(.ref an), (.ref a)])) rfl rfl (hb hby d_prog_42_method_1_code_33)
  refine own_step st7 ?_
  have E8_a := E3_a.wr W7
  have F9_id := F4_id.other W7 (Or.inr (slot_ne (Or.inr (own_w hw 50 rfl)) (Or.inr (own_w hw 52 rfl)) (by decide) (t := (.object "java/lang/String")) (t' := (.object "java/lang/String")) (by decide) (by decide)))
  have F10_name := F5_name.same W7
  have F11_silent := F6_silent.other W7 (Or.inr (slot_ne (Or.inr (own_w hw 54 rfl)) (Or.inr (own_w hw 52 rfl)) (by decide) (t := .boolean) (t' := (.object "java/lang/String")) (by decide) (by decide)))
  have N7 := Fr.snoc X7 N2 n0_a
  have K7 : Keep h0 h7 [a] := K2.wr W7 (Or.inl (List.mem_of_getElem? (i := 0) rfl))
  show GoP p e below Φ (T7.setTop (mkF m 36 #[.val (.ref a), .val (.ref ai), .val (.ref an), .val (.int (1 : Int32))] []))
  refine own_aloadN X7 hx hby d_prog_42_method_1_code_36 rfl rfl (pc' := 37) rfl ?_
  refine own_iloadN X7 hx hby d_prog_42_method_1_code_37 rfl (pc' := 38) rfl ?_
  obtain ⟨T12, h12, X12, e12, W12, st12⟩ := putFN X7 hx hZ hown (own_w hw 53 rfl) Via.refl e7 F11_silent E8_a (Or.inr ⟨(own_w hw 54 rfl), rfl, hnm⟩) (own_w hw 38 rfl) (ty := .boolean) (v' := (.int (1 : Int32))) (by decide) rfl (by decide) (g := (mkF m 38 #[.val (.ref a), .val (.ref ai), .val (.ref an), .val (.int (1 : Int32))] [(.int (1 : Int32)), (.ref a)])) rfl rfl (hb hby d_prog_42_method_1_code_38)
  refine own_step st12 ?_
  have E13_a := E8_a.wr W12
  have F14_id := F9_id.other W12 (Or.inr (slot_ne (Or.inr (own_w hw 50 rfl)) (Or.inr (own_w hw 54 rfl)) (by decide) (t := (.object "java/lang/String")) (t' := .boolean) (by decide) (by decide)))
  have F15_name := F10_name.other W12 (Or.inr (slot_ne (Or.inr (own_w hw 52 rfl)) (Or.inr (own_w hw 54 rfl)) (by decide) (t := (.object "java/lang/String")) (t' := .boolean) (by decide) (by decide)))
  have F16_silent := F11_silent.same W12
  have N12 := Fr.snoc X12 N7 n0_a
  have K12 : Keep h0 h12 [a] := K7.wr W12 (Or.inl (List.mem_of_getElem? (i := 0) rfl))
  show GoP p e below Φ (T12.setTop (mkF m 41 #[.val (.ref a), .val (.ref ai), .val (.ref an), .val (.int (1 : Int32))] []))
  exact own_ret0 X12 hx hby fin hret d_prog_42_method_1_code_41 (by decide) (by decide) (by rw [e12]; exact ⟨rfl, N12, K12, E13_a, F15_name, F16_silent⟩)
theorem ef_rmT_0NR (m : MethodId) (x0 : Addr) (x2 : Addr) (x3 : Int32) : entryFrame m #[(.ref x0), .null, (.ref x2), (.int x3)] 4 = mkF m 0 #[.val (.ref x0), .val .null, .val (.ref x2), .val (.int x3)] [] := by first | (simp [entryFrame, mkF, argsToLocals, Value.category]; done) | rfl
theorem d_prog_42_method_1_code_8 : decode prog_42_method_1_code 8 = .ok (.aload_n 2, 1) := by decide +kernel
theorem d_prog_42_method_1_code_9 : decode prog_42_method_1_code 9 = .ok (.ifnonnull 17, 3) := by decide +kernel
set_option maxRecDepth 65536 in
set_option maxHeartbeats 40000000 in
theorem rmT_0NR (l : Launch) (Z : State) (a0 : Array Value) (hw : ∀ d ∈ tables_1, d.before a0 Z = true) (a : Addr)  (an : Addr) (n0 : Nat) (h0 : Heap) (n0_a : n0 ≤ a) (E : Exa Z h0 a "com/example/tracemass/tracemass/nets/PetriNet$TransitionNode") (F_id : Fld Z h0 a "com/example/tracemass/tracemass/nets/PetriNet$TransitionNode" "id" "Ljava/lang/String;" .null) (F_name : Fld Z h0 a "com/example/tracemass/tracemass/nets/PetriNet$TransitionNode" "name" "Ljava/lang/String;" .null) (F_silent : Fld Z h0 a "com/example/tracemass/tracemass/nets/PetriNet$TransitionNode" "silent" "Z" (.int (0 : Int32))) : Con l Z (⟨"com/example/tracemass/tracemass/nets/PetriNet$TransitionNode", "<init>", "(Ljava/lang/String;Ljava/lang/String;Z)V"⟩ : MethodName) prog_42_method_1_code 4 none [] ({ frames := 2, cells := 0, slots := 0, locals := 24 } : Room) #[(.ref a), .null, (.ref an), (.int (0 : Int32))] h0 (fun v h L => v = none ∧ Fr n0 L ∧ Keep h0 h [a] ∧ Exa Z h a "com/example/tracemass/tracemass/nets/PetriNet$TransitionNode" ∧ Fld Z h a "com/example/tracemass/tracemass/nets/PetriNet$TransitionNode" "name" "Ljava/lang/String;" (.ref an) ∧ Fld Z h a "com/example/tracemass/tracemass/nets/PetriNet$TransitionNode" "silent" "Z" (.int (0 : Int32))) := by
  refine Con.of (plainFor_of_name pn_com_example_tracemass_tracemass_nets_PetriNet_TransitionNode) ?_
  intro p e s m below meth c T X hx hby hml hown hnm hret eT hZ hsh Φ fin
  replace hown : s.vm.findClass "com/example/tracemass/tracemass/nets/PetriNet$TransitionNode" = some m.cls := hown
  replace hml : 4 = c.maxLocals := hml.symm
  refine own_step (fun t k => castTop (ef_rmT_0NR m a an (0 : Int32)) k) ?_
  have N0 := Fr.nil n0
  have K0 : Keep h0 h0 [a] := Keep.refl h0 [a]
  refine own_aloadN X hx hby d_prog_42_method_1_code_0 rfl rfl (pc' := 1) rfl ?_
  refine own_callI X hx hby hZ (by exact hml) hown rfl (own_w hw 43 rfl) (own_w hw 44 rfl) (own_w hw 46 rfl) (own_w hw 47 rfl) (by decide) eT 0 (by decide) (by decide) (by decide) (by decide) (argsL := []) (rest := []) (lenOf pd___V rfl) rfl (Nat.le_of_eq rfl) (rmRe l Z a0 hw a h0) d_prog_42_method_1_code_1 (pc' := 4) rfl ?_
  intro v1 T1 L1 X1 hQ1
  obtain ⟨rfl, rfl, e1⟩ := hQ1
  rw [List.append_nil] at X1
  replace e1 : T1.heap = h0 := e1
  show GoP p e below Φ (T1.setTop (mkF m 4 #[.val (.ref a), .val .null, .val (.ref an), .val (.int (0 : Int32))] []))
  refine own_iloadN X1 hx hby d_prog_42_method_1_code_4 rfl (pc' := 5) rfl ?_
  refine own_ifN X1 hx hby d_prog_42_method_1_code_5 ((if0 _ _).trans (teq (by decide)).2) (pc' := 8) rfl ?_
  refine own_aloadN X1 hx hby d_prog_42_method_1_code_8 rfl rfl (pc' := 9) rfl ?_
  refine own_ifnonnullY X1 hx hby d_prog_42_method_1_code_9 (by decide) (pc' := 26) (by decide) ?_
  refine own_aloadN X1 hx hby d_prog_42_method_1_code_26 rfl rfl (pc' := 27) rfl ?_
  refine own_aloadN X1 hx hby d_prog_42_method_1_code_27 rfl rfl (pc' := 28) rfl ?_
  obtain ⟨T2, h2, X2, e2, W2, st2⟩ := putF X1 hx hZ hown (host := "") (Or.inl (own_w hw 49 rfl)) Via.refl e1 F_id E (Or.inr ⟨(own_w hw 50 rfl), rfl, hnm⟩) (own_w hw 38 rfl) (ty := (.object "java/lang/String")) (by decide) rfl rfl (g := (mkF m 28 #[.val (.ref a), .val .null, .val (.ref an), .val (.int (0 : Int32))] [.null, (.ref a)])) rfl rfl (hb hby d_prog_42_method_1_code_28)
  refine own_step st2 ?_
  have E3_a := E.wr W2
  have F4_id := F_id.same W2
  have F5_name := F_name.other W2 (Or.inr (slot_ne (Or.inr (own_w hw 52 rfl)) (Or.inr (own_w hw 50 rfl)) (by decide) (t := (.object "java/lang/String")) (t' := (.object "java/lang/String")) (by decide) (by decide)))
  have F6_silent := F_silent.other W2 (Or.inr (slot_ne (Or.inr (own_w hw 54 rfl)) (Or.inr (own_w hw 50 rfl)) (by decide) (t := .boolean) (t' := (.object "java/lang/String")) (by decide) (by decide)))
  have N2 := Fr.snoc X2 N0 n0_a
  have K2 : Keep h0 h2 [a] := K0.wr W2 (Or.inl (List.mem_of_getElem? (i := 0) rfl))
  show GoP p e below Φ (T2.setTop (mkF m 31 #[.val (.ref a), .val .null, .val (.ref an), .val (.int (0 : Int32))] []))
  refine own_aloadN X2 hx hby d_prog_42_method_1_code_31 rfl rfl (pc' := 32) rfl ?_
  refine own_aloadN X2 hx hby d_prog_42_method_1_code_32 rfl rfl (pc' := 33) rfl ?_
  obtain ⟨T7, h7, X7, e7, W7, st7⟩ := putF X2 hx hZ hown (host := "") (Or.inl (own_w hw 51 rfl)) Via.refl e2 F5_name E3_a (Or.inr ⟨(own_w hw 52 rfl), rfl, hnm⟩) (own_w hw 38 rfl) (ty := (.object "java/lang/String")) (by decide) rfl rfl (g := (mkF m 33 #[.val (.ref a), .val .null, .val (.ref an), .val (.int (0 : Int32))] [(.ref an), (.ref a)])) rfl rfl (hb hby d_prog_42_method_1_code_33)
  refine own_step st7 ?_
  have E8_a := E3_a.wr W7
  have F9_id := F4_id.other W7 (Or.inr (slot_ne (Or.inr (own_w hw 50 rfl)) (Or.inr (own_w hw 52 rfl)) (by decide) (t := (.object "java/lang/String")) (t' := (.object "java/lang/String")) (by decide) (by decide)))
  have F10_name := F5_name.same W7
  have F11_silent := F6_silent.other W7 (Or.inr (slot_ne (Or.inr (own_w hw 54 rfl)) (Or.inr (own_w hw 52 rfl)) (by decide) (t := .boolean) (t' := (.object "java/lang/String")) (by decide) (by decide)))
  have N7 := Fr.snoc X7 N2 n0_a
  have K7 : Keep h0 h7 [a] := K2.wr W7 (Or.inl (List.mem_of_getElem? (i := 0) rfl))
  show GoP p e below Φ (T7.setTop (mkF m 36 #[.val (.ref a), .val .null, .val (.ref an), .val (.int (0 : Int32))] []))
  refine own_aloadN X7 hx hby d_prog_42_method_1_code_36 rfl rfl (pc' := 37) rfl ?_
  refine own_iloadN X7 hx hby d_prog_42_method_1_code_37 rfl (pc' := 38) rfl ?_
  obtain ⟨T12, h12, X12, e12, W12, st12⟩ := putFN X7 hx hZ hown (own_w hw 53 rfl) Via.refl e7 F11_silent E8_a (Or.inr ⟨(own_w hw 54 rfl), rfl, hnm⟩) (own_w hw 38 rfl) (ty := .boolean) (v' := (.int (0 : Int32))) (by decide) rfl (by decide) (g := (mkF m 38 #[.val (.ref a), .val .null, .val (.ref an), .val (.int (0 : Int32))] [(.int (0 : Int32)), (.ref a)])) rfl rfl (hb hby d_prog_42_method_1_code_38)
  refine own_step st12 ?_
  have E13_a := E8_a.wr W12
  have F14_id := F9_id.other W12 (Or.inr (slot_ne (Or.inr (own_w hw 50 rfl)) (Or.inr (own_w hw 54 rfl)) (by decide) (t := (.object "java/lang/String")) (t' := .boolean) (by decide) (by decide)))
  have F15_name := F10_name.other W12 (Or.inr (slot_ne (Or.inr (own_w hw 52 rfl)) (Or.inr (own_w hw 54 rfl)) (by decide) (t := (.object "java/lang/String")) (t' := .boolean) (by decide) (by decide)))
  have F16_silent := F11_silent.same W12
  have N12 := Fr.snoc X12 N7 n0_a
  have K12 : Keep h0 h12 [a] := K7.wr W12 (Or.inl (List.mem_of_getElem? (i := 0) rfl))
  show GoP p e below Φ (T12.setTop (mkF m 41 #[.val (.ref a), .val .null, .val (.ref an), .val (.int (0 : Int32))] []))
  exact own_ret0 X12 hx hby fin hret d_prog_42_method_1_code_41 (by decide) (by decide) (by rw [e12]; exact ⟨rfl, N12, K12, E13_a, F15_name, F16_silent⟩)
theorem ef_rmT_0RR (m : MethodId) (x0 : Addr) (x1 : Addr) (x2 : Addr) (x3 : Int32) : entryFrame m #[(.ref x0), (.ref x1), (.ref x2), (.int x3)] 4 = mkF m 0 #[.val (.ref x0), .val (.ref x1), .val (.ref x2), .val (.int x3)] [] := by first | (simp [entryFrame, mkF, argsToLocals, Value.category]; done) | rfl
set_option maxRecDepth 65536 in
set_option maxHeartbeats 40000000 in
theorem rmT_0RR (l : Launch) (Z : State) (a0 : Array Value) (hw : ∀ d ∈ tables_1, d.before a0 Z = true) (a : Addr) (ai : Addr) (an : Addr) (n0 : Nat) (h0 : Heap) (n0_a : n0 ≤ a) (E : Exa Z h0 a "com/example/tracemass/tracemass/nets/PetriNet$TransitionNode") (F_id : Fld Z h0 a "com/example/tracemass/tracemass/nets/PetriNet$TransitionNode" "id" "Ljava/lang/String;" .null) (F_name : Fld Z h0 a "com/example/tracemass/tracemass/nets/PetriNet$TransitionNode" "name" "Ljava/lang/String;" .null) (F_silent : Fld Z h0 a "com/example/tracemass/tracemass/nets/PetriNet$TransitionNode" "silent" "Z" (.int (0 : Int32))) : Con l Z (⟨"com/example/tracemass/tracemass/nets/PetriNet$TransitionNode", "<init>", "(Ljava/lang/String;Ljava/lang/String;Z)V"⟩ : MethodName) prog_42_method_1_code 4 none [] ({ frames := 2, cells := 0, slots := 0, locals := 24 } : Room) #[(.ref a), (.ref ai), (.ref an), (.int (0 : Int32))] h0 (fun v h L => v = none ∧ Fr n0 L ∧ Keep h0 h [a] ∧ Exa Z h a "com/example/tracemass/tracemass/nets/PetriNet$TransitionNode" ∧ Fld Z h a "com/example/tracemass/tracemass/nets/PetriNet$TransitionNode" "name" "Ljava/lang/String;" (.ref an) ∧ Fld Z h a "com/example/tracemass/tracemass/nets/PetriNet$TransitionNode" "silent" "Z" (.int (0 : Int32))) := by
  refine Con.of (plainFor_of_name pn_com_example_tracemass_tracemass_nets_PetriNet_TransitionNode) ?_
  intro p e s m below meth c T X hx hby hml hown hnm hret eT hZ hsh Φ fin
  replace hown : s.vm.findClass "com/example/tracemass/tracemass/nets/PetriNet$TransitionNode" = some m.cls := hown
  replace hml : 4 = c.maxLocals := hml.symm
  refine own_step (fun t k => castTop (ef_rmT_0RR m a ai an (0 : Int32)) k) ?_
  have N0 := Fr.nil n0
  have K0 : Keep h0 h0 [a] := Keep.refl h0 [a]
  refine own_aloadN X hx hby d_prog_42_method_1_code_0 rfl rfl (pc' := 1) rfl ?_
  refine own_callI X hx hby hZ (by exact hml) hown rfl (own_w hw 43 rfl) (own_w hw 44 rfl) (own_w hw 46 rfl) (own_w hw 47 rfl) (by decide) eT 0 (by decide) (by decide) (by decide) (by decide) (argsL := []) (rest := []) (lenOf pd___V rfl) rfl (Nat.le_of_eq rfl) (rmRe l Z a0 hw a h0) d_prog_42_method_1_code_1 (pc' := 4) rfl ?_
  intro v1 T1 L1 X1 hQ1
  obtain ⟨rfl, rfl, e1⟩ := hQ1
  rw [List.append_nil] at X1
  replace e1 : T1.heap = h0 := e1
  show GoP p e below Φ (T1.setTop (mkF m 4 #[.val (.ref a), .val (.ref ai), .val (.ref an), .val (.int (0 : Int32))] []))
  refine own_iloadN X1 hx hby d_prog_42_method_1_code_4 rfl (pc' := 5) rfl ?_
  refine own_ifN X1 hx hby d_prog_42_method_1_code_5 ((if0 _ _).trans (teq (by decide)).2) (pc' := 8) rfl ?_
  refine own_aloadN X1 hx hby d_prog_42_method_1_code_8 rfl rfl (pc' := 9) rfl ?_
  refine own_ifnonnullY X1 hx hby d_prog_42_method_1_code_9 (by decide) (pc' := 26) (by decide) ?_
  refine own_aloadN X1 hx hby d_prog_42_method_1_code_26 rfl rfl (pc' := 27) rfl ?_
  refine own_aloadN X1 hx hby d_prog_42_method_1_code_27 rfl rfl (pc' := 28) rfl ?_
  obtain ⟨T2, h2, X2, e2, W2, st2⟩ := putF X1 hx hZ hown (host := "") (Or.inl (own_w hw 49 rfl)) Via.refl e1 F_id E (Or.inr ⟨(own_w hw 50 rfl), rfl, hnm⟩) (own_w hw 38 rfl) (ty := (.object "java/lang/String")) (by decide) rfl rfl (g := (mkF m 28 #[.val (.ref a), .val (.ref ai), .val (.ref an), .val (.int (0 : Int32))] [(.ref ai), (.ref a)])) rfl rfl (hb hby d_prog_42_method_1_code_28)
  refine own_step st2 ?_
  have E3_a := E.wr W2
  have F4_id := F_id.same W2
  have F5_name := F_name.other W2 (Or.inr (slot_ne (Or.inr (own_w hw 52 rfl)) (Or.inr (own_w hw 50 rfl)) (by decide) (t := (.object "java/lang/String")) (t' := (.object "java/lang/String")) (by decide) (by decide)))
  have F6_silent := F_silent.other W2 (Or.inr (slot_ne (Or.inr (own_w hw 54 rfl)) (Or.inr (own_w hw 50 rfl)) (by decide) (t := .boolean) (t' := (.object "java/lang/String")) (by decide) (by decide)))
  have N2 := Fr.snoc X2 N0 n0_a
  have K2 : Keep h0 h2 [a] := K0.wr W2 (Or.inl (List.mem_of_getElem? (i := 0) rfl))
  show GoP p e below Φ (T2.setTop (mkF m 31 #[.val (.ref a), .val (.ref ai), .val (.ref an), .val (.int (0 : Int32))] []))
  refine own_aloadN X2 hx hby d_prog_42_method_1_code_31 rfl rfl (pc' := 32) rfl ?_
  refine own_aloadN X2 hx hby d_prog_42_method_1_code_32 rfl rfl (pc' := 33) rfl ?_
  obtain ⟨T7, h7, X7, e7, W7, st7⟩ := putF X2 hx hZ hown (host := "") (Or.inl (own_w hw 51 rfl)) Via.refl e2 F5_name E3_a (Or.inr ⟨(own_w hw 52 rfl), rfl, hnm⟩) (own_w hw 38 rfl) (ty := (.object "java/lang/String")) (by decide) rfl rfl (g := (mkF m 33 #[.val (.ref a), .val (.ref ai), .val (.ref an), .val (.int (0 : Int32))] [(.ref an), (.ref a)])) rfl rfl (hb hby d_prog_42_method_1_code_33)
  refine own_step st7 ?_
  have E8_a := E3_a.wr W7
  have F9_id := F4_id.other W7 (Or.inr (slot_ne (Or.inr (own_w hw 50 rfl)) (Or.inr (own_w hw 52 rfl)) (by decide) (t := (.object "java/lang/String")) (t' := (.object "java/lang/String")) (by decide) (by decide)))
  have F10_name := F5_name.same W7
  have F11_silent := F6_silent.other W7 (Or.inr (slot_ne (Or.inr (own_w hw 54 rfl)) (Or.inr (own_w hw 52 rfl)) (by decide) (t := .boolean) (t' := (.object "java/lang/String")) (by decide) (by decide)))
  have N7 := Fr.snoc X7 N2 n0_a
  have K7 : Keep h0 h7 [a] := K2.wr W7 (Or.inl (List.mem_of_getElem? (i := 0) rfl))
  show GoP p e below Φ (T7.setTop (mkF m 36 #[.val (.ref a), .val (.ref ai), .val (.ref an), .val (.int (0 : Int32))] []))
  refine own_aloadN X7 hx hby d_prog_42_method_1_code_36 rfl rfl (pc' := 37) rfl ?_
  refine own_iloadN X7 hx hby d_prog_42_method_1_code_37 rfl (pc' := 38) rfl ?_
  obtain ⟨T12, h12, X12, e12, W12, st12⟩ := putFN X7 hx hZ hown (own_w hw 53 rfl) Via.refl e7 F11_silent E8_a (Or.inr ⟨(own_w hw 54 rfl), rfl, hnm⟩) (own_w hw 38 rfl) (ty := .boolean) (v' := (.int (0 : Int32))) (by decide) rfl (by decide) (g := (mkF m 38 #[.val (.ref a), .val (.ref ai), .val (.ref an), .val (.int (0 : Int32))] [(.int (0 : Int32)), (.ref a)])) rfl rfl (hb hby d_prog_42_method_1_code_38)
  refine own_step st12 ?_
  have E13_a := E8_a.wr W12
  have F14_id := F9_id.other W12 (Or.inr (slot_ne (Or.inr (own_w hw 50 rfl)) (Or.inr (own_w hw 54 rfl)) (by decide) (t := (.object "java/lang/String")) (t' := .boolean) (by decide) (by decide)))
  have F15_name := F10_name.other W12 (Or.inr (slot_ne (Or.inr (own_w hw 52 rfl)) (Or.inr (own_w hw 54 rfl)) (by decide) (t := (.object "java/lang/String")) (t' := .boolean) (by decide) (by decide)))
  have F16_silent := F11_silent.same W12
  have N12 := Fr.snoc X12 N7 n0_a
  have K12 : Keep h0 h12 [a] := K7.wr W12 (Or.inl (List.mem_of_getElem? (i := 0) rfl))
  show GoP p e below Φ (T12.setTop (mkF m 41 #[.val (.ref a), .val (.ref ai), .val (.ref an), .val (.int (0 : Int32))] []))
  exact own_ret0 X12 hx hby fin hret d_prog_42_method_1_code_41 (by decide) (by decide) (by rw [e12]; exact ⟨rfl, N12, K12, E13_a, F15_name, F16_silent⟩)
theorem ef_rmL1 (m : MethodId) (x0 : Addr) : entryFrame m #[(.ref x0)] 1 = mkF m 0 #[.val (.ref x0)] [] := by first | (simp [entryFrame, mkF, argsToLocals, Value.category]; done) | rfl
theorem d_prog_42_method_2_code_0 : decode prog_42_method_2_code 0 = .ok (.aload_n 0, 1) := by decide +kernel
theorem d_prog_42_method_2_code_1 : decode prog_42_method_2_code 1 = .ok (.getfield 25, 3) := by decide +kernel
theorem d_prog_42_method_2_code_4 : decode prog_42_method_2_code 4 = .ok (.ifCond .eq 7, 3) := by decide +kernel
theorem d_prog_42_method_2_code_7 : decode prog_42_method_2_code 7 = .ok (.aconst_null, 1) := by decide +kernel
theorem d_prog_42_method_2_code_8 : decode prog_42_method_2_code 8 = .ok (.goto 7, 3) := by decide +kernel
theorem d_prog_42_method_2_code_15 : decode prog_42_method_2_code 15 = .ok (.areturn, 1) := by decide +kernel
set_option maxRecDepth 65536 in
set_option maxHeartbeats 40000000 in
theorem rmL1 (l : Launch) (Z : State) (a0 : Array Value) (hw : ∀ d ∈ tables_1, d.before a0 Z = true) (a : Addr) (h0 : Heap) (F : Fld Z h0 a "com/example/tracemass/tracemass/nets/PetriNet$TransitionNode" "silent" "Z" (.int (1 : Int32))) : Con l Z (⟨"com/example/tracemass/tracemass/nets/PetriNet$TransitionNode", "label", "()Ljava/lang/String;"⟩ : MethodName) prog_42_method_2_code 1 (some (.object "java/lang/String")) [] ({ frames := 0, cells := 0, slots := 0, locals := 0 } : Room) #[(.ref a)] h0 (fun v h L => v = some .null ∧ L = [] ∧ h = h0) := by
  refine Con.of (plainFor_of_name pn_com_example_tracemass_tracemass_nets_PetriNet_TransitionNode) ?_
  intro p e s m below meth c T X hx hby hml hown hnm hret eT hZ hsh Φ fin
  replace hown : s.vm.findClass "com/example/tracemass/tracemass/nets/PetriNet$TransitionNode" = some m.cls := hown
  replace hml : 1 = c.maxLocals := hml.symm
  refine own_step (fun t k => castTop (ef_rmL1 m a) k) ?_
  refine own_aloadN X hx hby d_prog_42_method_2_code_0 rfl rfl (pc' := 1) rfl ?_
  obtain ⟨T1, X1, e1, st1⟩ := getF X hx hZ hown (host := "") (Or.inl (own_w hw 53 rfl)) Via.refl eT F (g := (mkF m 1 #[.val (.ref a)] [(.ref a)])) rfl rfl (hb hby d_prog_42_method_2_code_1)
  refine own_step st1 ?_
  show GoP p e below Φ (T1.setTop (mkF m 4 #[.val (.ref a)] [(.int (1 : Int32))]))
  refine own_ifN X1 hx hby d_prog_42_method_2_code_4 ((if0 _ _).trans (feq (by decide)).1) (pc' := 7) rfl ?_
  refine own_aconst_null X1 hx hby d_prog_42_method_2_code_7 (pc' := 8) rfl ?_
  refine own_goto X1 hx hby d_prog_42_method_2_code_8 (by decide) (pc' := 15) (by decide) ?_
  exact own_retA X1 hx hby fin hret rfl rfl rfl d_prog_42_method_2_code_15 (by decide) (by decide) ⟨rfl, rfl, e1⟩
theorem ef_rmL0 (m : MethodId) (x0 : Addr) : entryFrame m #[(.ref x0)] 1 = mkF m 0 #[.val (.ref x0)] [] := by first | (simp [entryFrame, mkF, argsToLocals, Value.category]; done) | rfl
theorem d_prog_42_method_2_code_11 : decode prog_42_method_2_code 11 = .ok (.aload_n 0, 1) := by decide +kernel
theorem d_prog_42_method_2_code_12 : decode prog_42_method_2_code 12 = .ok (.getfield 22, 3) := by decide +kernel
set_option maxRecDepth 65536 in
set_option maxHeartbeats 40000000 in
theorem rmL0 (l : Launch) (Z : State) (a0 : Array Value) (hw : ∀ d ∈ tables_1, d.before a0 Z = true) (a an : Addr) (h0 : Heap) (F : Fld Z h0 a "com/example/tracemass/tracemass/nets/PetriNet$TransitionNode" "silent" "Z" (.int (0 : Int32))) (G : Fld Z h0 a "com/example/tracemass/tracemass/nets/PetriNet$TransitionNode" "name" "Ljava/lang/String;" (.ref an)) : Con l Z (⟨"com/example/tracemass/tracemass/nets/PetriNet$TransitionNode", "label", "()Ljava/lang/String;"⟩ : MethodName) prog_42_method_2_code 1 (some (.object "java/lang/String")) [] ({ frames := 0, cells := 0, slots := 0, locals := 0 } : Room) #[(.ref a)] h0 (fun v h L => v = some (.ref an) ∧ L = [] ∧ h = h0) := by
  refine Con.of (plainFor_of_name pn_com_example_tracemass_tracemass_nets_PetriNet_TransitionNode) ?_
  intro p e s m below meth c T X hx hby hml hown hnm hret eT hZ hsh Φ fin
  replace hown : s.vm.findClass "com/example/tracemass/tracemass/nets/PetriNet$TransitionNode" = some m.cls := hown
  replace hml : 1 = c.maxLocals := hml.symm
  refine own_step (fun t k => castTop (ef_rmL0 m a) k) ?_
  refine own_aloadN X hx hby d_prog_42_method_2_code_0 rfl rfl (pc' := 1) rfl ?_
  obtain ⟨T1, X1, e1, st1⟩ := getF X hx hZ hown (host := "") (Or.inl (own_w hw 53 rfl)) Via.refl eT F (g := (mkF m 1 #[.val (.ref a)] [(.ref a)])) rfl rfl (hb hby d_prog_42_method_2_code_1)
  refine own_step st1 ?_
  show GoP p e below Φ (T1.setTop (mkF m 4 #[.val (.ref a)] [(.int (0 : Int32))]))
  refine own_ifY X1 hx hby d_prog_42_method_2_code_4 ((if0 _ _).trans (teq (by decide)).1) (by decide) (pc' := 11) (by decide) ?_
  refine own_aloadN X1 hx hby d_prog_42_method_2_code_11 rfl rfl (pc' := 12) rfl ?_
  obtain ⟨T2, X2, e2, st2⟩ := getF X1 hx hZ hown (host := "") (Or.inl (own_w hw 51 rfl)) Via.refl e1 G (g := (mkF m 12 #[.val (.ref a)] [(.ref a)])) rfl rfl (hb hby d_prog_42_method_2_code_12)
  refine own_step st2 ?_
  show GoP p e below Φ (T2.setTop (mkF m 15 #[.val (.ref a)] [(.ref an)]))
  exact own_retA X2 hx hby fin hret rfl rfl rfl d_prog_42_method_2_code_15 (by decide) (by decide) ⟨rfl, rfl, e2⟩
theorem own_three (p : Int32) : ((p.toUInt32 >>> ((3 : Int32) &&& 31).toUInt32).toInt32) % (3 : Int32) = (0 : Int32) ∨ ((p.toUInt32 >>> ((3 : Int32) &&& 31).toUInt32).toInt32) % (3 : Int32) = (1 : Int32) ∨ ((p.toUInt32 >>> ((3 : Int32) &&& 31).toUInt32).toInt32) % (3 : Int32) = (2 : Int32) := by
  have a := c_iushr p 3 3 (by decide) (by decide)
  have r := rng32 p
  generalize ((p.toUInt32 >>> ((3 : Int32) &&& 31).toUInt32).toInt32) = q at *
  have b := (c_irem q 3 3 (by decide)).1 (by omega)
  have e0 : (0 : Int32).toInt = 0 := by decide
  have e1 : (1 : Int32).toInt = 1 := by decide
  have e2 : (2 : Int32).toInt = 2 := by decide
  simp only [← Int32.toInt_inj, e0, e1, e2]
  omega
theorem ef_rm0 (m : MethodId) (x0 : Int32) (x1 : Int32) (x2 : Int32) (x3 : Int32) : entryFrame m #[(.int x0), (.int x1), (.int x2), (.int x3)] maxLocals = mkF m 0 #[.val (.int x0), .val (.int x1), .val (.int x2), .val (.int x3), .unset, .unset, .unset, .unset, .unset, .unset, .unset, .unset, .unset] [] := by first | (simp [entryFrame, mkF, argsToLocals, Value.category, maxLocals]; done) | rfl
theorem pn_com_example_tracemass_tracemass_nets_TransitionNodeLabelPinLaw : plainName "com/example/tracemass/tracemass/nets/TransitionNodeLabelPinLaw" = true := by first | (simp [plainName, overriddenIn]; done) | decide +kernel
theorem pd___C_V : parseMethodDescriptor "([C)V" = some ⟨[(.array .char)], none⟩ := by decide +kernel
theorem pd__C_Ljava_lang_String_ : parseMethodDescriptor "(C)Ljava/lang/String;" = some ⟨[.char], some (.object "java/lang/String")⟩ := by decide +kernel
theorem pd__Ljava_lang_String_Ljava_lang_String_Z_V : parseMethodDescriptor "(Ljava/lang/String;Ljava/lang/String;Z)V" = some ⟨[(.object "java/lang/String"), (.object "java/lang/String"), .boolean], none⟩ := by decide +kernel
theorem pd___Ljava_lang_String_ : parseMethodDescriptor "()Ljava/lang/String;" = some ⟨[], some (.object "java/lang/String")⟩ := by decide +kernel
theorem pd___I : parseMethodDescriptor "()I" = some ⟨[], some .int⟩ := by decide +kernel
theorem pd__Ljava_lang_Object__Z : parseMethodDescriptor "(Ljava/lang/Object;)Z" = some ⟨[(.object "java/lang/Object")], some .boolean⟩ := by decide +kernel
set_option maxRecDepth 65536 in
set_option maxHeartbeats 40000000 in
theorem rm0 (l : Launch) (Z : State) (a0 : Array Value) (hw : ∀ d ∈ tables_1, d.before a0 Z = true) (p1 p2 p3 p4 cs : Int32) (n0 : Nat) (h0 : Heap) (Z0 : n0 ≤ h0.size) (O0 : Old Z n0 h0) (hcs : ¬ cs = (0 : Int32)) (hh : Jvm.Lit.constHeld Z "java/lang/String" 7) (hcw : Jvm.Lit.compactW.before a0 Z = true) (Scs : Sta Z h0 "java/lang/String" "COMPACT_STRINGS" "Z" (.int cs)) : ConX l Z x code maxLocals ret tables_1 room_1 #[(.int p1), (.int p2), (.int p3), (.int p4)] h0 (fun vm => IB Z vm []) (fun v h vm L => v = some (.int 1) ∧ Fr n0 L) := by
  refine ConX.of (plainFor_of_name pn_com_example_tracemass_tracemass_nets_TransitionNodeLabelPinLaw) ?_
  intro p e s m below meth c T vm0 k0 X hx hby hml hown hnm hret eT hZ hsh hS hk hPv Φ fin
  replace hown : vm0.findClass "com/example/tracemass/tracemass/nets/TransitionNodeLabelPinLaw" = some m.cls := hown
  replace hml : 13 = c.maxLocals := hml.symm
  refine own_step (fun t k => castTop (ef_rm0 m p1 p2 p3 p4) k) ?_
  replace hret : meth.sig.returnType = (some .boolean) := hret
  have N0 := Fr.nil n0
  refine own_iloadN X hx hby at_0 rfl (pc' := 1) rfl ?_
  refine own_iconst X hx hby at_1 (v := (1 : Int32)) rfl (pc' := 2) rfl ?_
  refine own_iand X hx hby at_2 (pc' := 3) rfl ?_
  by_cases hc3_1 : (p1 &&& (1 : Int32)) = (0 : Int32)
  · refine own_ifY X hx hby at_3 ((if0 _ _).trans (teq hc3_1).1) (by decide) (pc' := 10) (by decide) ?_
    refine own_iconst X hx hby at_10 (v := (0 : Int32)) rfl (pc' := 11) rfl ?_
    refine own_istore X hx hby at_11  (Ls' := #[.val (.int p1), .val (.int p2), .val (.int p3), .val (.int p4), .val (.int (0 : Int32)), .unset, .unset, .unset, .unset, .unset, .unset, .unset, .unset]) rfl (pc' := 13) rfl ?_
    refine own_iload X hx hby at_13 rfl (pc' := 15) rfl ?_
    refine own_ifY X hx hby at_15 ((if0 _ _).trans (teq (by decide)).1) (by decide) (pc' := 28) (by decide) ?_
    refine own_iconst X hx hby at_28 (v := (0 : Int32)) rfl (pc' := 29) rfl ?_
    refine own_istore X hx hby at_29  (Ls' := #[.val (.int p1), .val (.int p2), .val (.int p3), .val (.int p4), .val (.int (0 : Int32)), .val (.int (0 : Int32)), .unset, .unset, .unset, .unset, .unset, .unset, .unset]) rfl (pc' := 31) rfl ?_
    refine own_iloadN X hx hby at_31 rfl (pc' := 32) rfl ?_
    refine own_iconst X hx hby at_32 (v := (4 : Int32)) rfl (pc' := 33) rfl ?_
    refine own_iand X hx hby at_33 (pc' := 34) rfl ?_
    by_cases hc34_2 : (p1 &&& (4 : Int32)) = (0 : Int32)
    · refine own_ifY X hx hby at_34 ((if0 _ _).trans (teq hc34_2).1) (by decide) (pc' := 41) (by decide) ?_
      refine own_iconst X hx hby at_41 (v := (0 : Int32)) rfl (pc' := 42) rfl ?_
      refine own_istore X hx hby at_42  (Ls' := #[.val (.int p1), .val (.int p2), .val (.int p3), .val (.int p4), .val (.int (0 : Int32)), .val (.int (0 : Int32)), .val (.int (0 : Int32)), .unset, .unset, .unset, .unset, .unset, .unset]) rfl (pc' := 44) rfl ?_
      refine own_iloadN X hx hby at_44 rfl (pc' := 45) rfl ?_
      refine own_iconst X hx hby at_45 (v := (3 : Int32)) rfl (pc' := 46) rfl ?_
      refine own_iushr X hx hby at_46 (pc' := 47) rfl ?_
      refine own_iconst X hx hby at_47 (v := (3 : Int32)) rfl (pc' := 48) rfl ?_
      refine own_irem X hx hby at_48 (by decide) (pc' := 49) rfl ?_
      refine own_istore X hx hby at_49  (Ls' := #[.val (.int p1), .val (.int p2), .val (.int p3), .val (.int p4), .val (.int (0 : Int32)), .val (.int (0 : Int32)), .val (.int (0 : Int32)), .val (.int (((p1.toUInt32 >>> ((3 : Int32) &&& 31).toUInt32).toInt32) % (3 : Int32))), .unset, .unset, .unset, .unset, .unset]) rfl (pc' := 51) rfl ?_
      have hz := own_three p1
      generalize (((p1.toUInt32 >>> ((3 : Int32) &&& 31).toUInt32).toInt32) % (3 : Int32)) = z at hz ⊢
      rcases hz with rfl | rfl | rfl
      · refine own_iload X hx hby at_51 rfl (pc' := 53) rfl ?_
        refine own_ifN X hx hby at_53 ((if0 _ _).trans (teq (by decide)).2) (pc' := 56) rfl ?_
        refine own_iconst X hx hby at_56 (v := (0 : Int32)) rfl (pc' := 57) rfl ?_
        obtain ⟨T3, h3, k3, X3, e3, E3, A3, st3⟩ := newP X hx hZ (own_w hw 0 rfl) eT (g := (mkF m 57 #[.val (.int p1), .val (.int p2), .val (.int p3), .val (.int p4), .val (.int (0 : Int32)), .val (.int (0 : Int32)), .val (.int (0 : Int32)), .val (.int (0 : Int32)), .unset, .unset, .unset, .unset, .unset] [(.int (0 : Int32))])) rfl (hb hby at_57) rfl (by decide) (cap := 0) (by decide) (by decide) (by decide) (by decide)
        obtain ⟨b3, g3⟩ : ∃ z, z = h0.size := ⟨_, rfl⟩
        have S4_COMPACT_STRINGS := Scs.ext E3
        replace hk := Nat.le_trans hk E3.1
        have Z3 : n0 ≤ h3.size := Nat.le_trans Z0 E3.1
        have n0_b3 : n0 ≤ b3 := g3 ▸ Z0
        have O3 := O0.ext E3
        rw [← g3] at A3 st3
        refine own_step st3 ?_
        have V3 : AV Z h3 b3 .char [] := AV.new A3 (by decide)
        show GoP p e below Φ (T3.setTop (mkF m 59 #[.val (.int p1), .val (.int p2), .val (.int p3), .val (.int p4), .val (.int (0 : Int32)), .val (.int (0 : Int32)), .val (.int (0 : Int32)), .val (.int (0 : Int32)), .unset, .unset, .unset, .unset, .unset] [(.ref b3)]))
        refine own_astore X3 hx hby at_59 rfl (Ls' := #[.val (.int p1), .val (.int p2), .val (.int p3), .val (.int p4), .val (.int (0 : Int32)), .val (.int (0 : Int32)), .val (.int (0 : Int32)), .val (.int (0 : Int32)), .val (.ref b3), .unset, .unset, .unset, .unset]) rfl (pc' := 61) rfl ?_
        refine own_goto X3 hx hby at_61 (by decide) (pc' := 110) (by decide) ?_
        refine own_iload X3 hx hby at_110 rfl (pc' := 112) rfl ?_
        refine own_ifY X3 hx hby at_112 ((if0 _ _).trans (teq (by decide)).1) (by decide) (pc' := 119) (by decide) ?_
        obtain ⟨T5, h5, X5, e5, E5, A5, D5, -, st5⟩ := newO X3 hx hZ hown (own_w hw 1 rfl) (own_w hw 2 rfl) (own_w hw 3 rfl) e3 (g := (mkF m 119 #[.val (.int p1), .val (.int p2), .val (.int p3), .val (.int p4), .val (.int (0 : Int32)), .val (.int (0 : Int32)), .val (.int (0 : Int32)), .val (.int (0 : Int32)), .val (.ref b3), .unset, .unset, .unset, .unset] [])) rfl (hb hby at_119) (by decide) (by decide)
        obtain ⟨b5, g5⟩ : ∃ z, z = h3.size := ⟨_, rfl⟩
        have ne_b3_b5 : b3 ≠ b5 := Nat.ne_of_lt (g5 ▸ V3.lt)
        have S6_COMPACT_STRINGS := S4_COMPACT_STRINGS.ext E5
        have V7_b3 := V3.ext E5
        replace hk := Nat.le_trans hk E5.1
        have Z5 : n0 ≤ h5.size := Nat.le_trans Z3 E5.1
        have n0_b5 : n0 ≤ b5 := g5 ▸ Z3
        have O5 := O3.ext E5
        rw [← g5] at A5 D5 st5
        refine own_step st5 ?_
        have F5_value : Fld Z h5 b5 "java/lang/String" "value" "[B" .null := D5 (Or.inr (own_w hw 16 rfl)) (ty := (.array .byte)) (by decide)
        have F5_coder : Fld Z h5 b5 "java/lang/String" "coder" "B" (.int (0 : Int32)) := D5 (Or.inr (own_w hw 17 rfl)) (ty := .byte) (by decide)
        show GoP p e below Φ (T5.setTop (mkF m 122 #[.val (.int p1), .val (.int p2), .val (.int p3), .val (.int p4), .val (.int (0 : Int32)), .val (.int (0 : Int32)), .val (.int (0 : Int32)), .val (.int (0 : Int32)), .val (.ref b3), .unset, .unset, .unset, .unset] [(.ref b5)]))
        refine own_dup X5 hx hby at_122 rfl (pc' := 123) rfl ?_
        refine own_aload X5 hx hby at_123 rfl rfl (pc' := 125) rfl ?_
        refine own_callIX X5 hx hby hZ (by exact hml) hown rfl (own_w hw 4 rfl) (own_w hw 5 rfl) (own_w hw 3 rfl) (own_w hw 6 rfl) (by decide) e5 1 (by decide) (by decide) (by decide) (by decide) (argsL := [(.ref b3)]) (rest := [(.ref b5)]) (lenOf pd___C_V rfl) rfl (Nat.le_of_eq rfl) (rmI1_0 l Z a0 hw b5 b3 n0 h5 n0_b5 Z5 O5.2 hh hcw A5 F5_coder F5_value V7_b3) at_125 (pc' := 128) rfl hS hk own_litS_stays (Or.inl hPv) ?_
        clear hS hk hZ hown
        intro v8 T8 L8 X8 hS hk hZ hown hge8 hQ8
        obtain ⟨rfl, Nq8, K8, ⟨aL8, bL8, LL8, EL8, CL8, VL8, BL8⟩, bb8, E8, FC8, FV8, V8⟩ := hQ8
        have S9_COMPACT_STRINGS := own_stakeep S6_COMPACT_STRINGS K8 (allS (own_plainE A5) all0)
        have V10_b3 := V7_b3.keep K8 (ninS ne_b3_b5 nin0)
        have N8 := Fr.app N0 Nq8
        have O8 := O5.keep K8 (allS n0_b5 all0)
        have Z8 : n0 ≤ T8.heap.size := Nat.le_trans Z5 K8.1
        show GoP p e below Φ (T8.setTop (mkF m 128 #[.val (.int p1), .val (.int p2), .val (.int p3), .val (.int p4), .val (.int (0 : Int32)), .val (.int (0 : Int32)), .val (.int (0 : Int32)), .val (.int (0 : Int32)), .val (.ref b3), .unset, .unset, .unset, .unset] [(.ref b5)]))
        obtain ⟨aL, eaL⟩ : ∃ q, q = aL8 := ⟨_, rfl⟩
        obtain ⟨bL, ebL⟩ : ∃ q, q = bL8 := ⟨_, rfl⟩
        rw [← eaL] at LL8 EL8 CL8 VL8
        rw [← ebL] at VL8 BL8
        have LL := LL8
        refine own_astore X8 hx hby at_128 rfl (Ls' := #[.val (.int p1), .val (.int p2), .val (.int p3), .val (.int p4), .val (.int (0 : Int32)), .val (.int (0 : Int32)), .val (.int (0 : Int32)), .val (.int (0 : Int32)), .val (.ref b3), .val (.ref b5), .unset, .unset, .unset]) rfl (pc' := 130) rfl ?_
        refine own_iload X8 hx hby at_130 rfl (pc' := 132) rfl ?_
        refine own_ifY X8 hx hby at_132 ((if0 _ _).trans (teq (by decide)).1) (by decide) (pc' := 139) (by decide) ?_
        refine own_iloadN X8 hx hby at_139 rfl (pc' := 140) rfl ?_
        refine own_sipush X8 hx hby at_140 (v := (255 : Int32)) rfl (pc' := 143) rfl ?_
        refine own_iand X8 hx hby at_143 (pc' := 144) rfl ?_
        refine own_i2c X8 hx hby at_144 (pc' := 145) rfl ?_
        refine own_callS X8 hx hby hZ (by exact hml) hown (own_w hw 22 rfl) (own_w hw 23 rfl) (own_w hw 3 rfl) (own_w hw 24 rfl) (by decide) rfl 0 (by decide) (by decide) (by decide) (by decide) (argsL := [(.int ((p4 &&& (255 : Int32)).toUInt32.toUInt16.toUInt32.toInt32))]) (rest := []) (lenOf pd__C_Ljava_lang_String_ rfl) rfl (rmVO l Z a0 hw ((p4 &&& (255 : Int32)).toUInt32.toUInt16.toUInt32.toInt32) cs n0 T8.heap (own_chr1 p4) hcs Z8 S9_COMPACT_STRINGS) (Nat.le_of_eq rfl) at_145 (pc' := 148) rfl ?_
        intro v11 T11 L11 X11 hQ11
        obtain ⟨ri11, rfl, Nq11, K11, sr11⟩ := hQ11
        have S12_COMPACT_STRINGS := own_stakeep S9_COMPACT_STRINGS K11 all0
        have V13_b3 := V10_b3.keep K11 nin0
        have E14_b5 := E8.keep K11
        have F15_value := FV8.keep K11 nin0
        have F16_coder := FC8.keep K11 nin0
        have V17_bb8 := V8.keep K11 nin0
        have E18_aL := EL8.keep K11
        have F19_coder := CL8.keep K11 nin0
        have F20_value := VL8.keep K11 nin0
        have V21_bL := BL8.keep K11 nin0
        have N11 := Fr.app N8 Nq11
        have O11 := O8.keep K11 all0
        have Z11 : n0 ≤ T11.heap.size := Nat.le_trans Z8 K11.1
        replace hk := Nat.le_trans hk K11.1
        show GoP p e below Φ (T11.setTop (mkF m 148 #[.val (.int p1), .val (.int p2), .val (.int p3), .val (.int p4), .val (.int (0 : Int32)), .val (.int (0 : Int32)), .val (.int (0 : Int32)), .val (.int (0 : Int32)), .val (.ref b3), .val (.ref b5), .unset, .unset, .unset] [(.ref ri11)]))
        refine own_astore X11 hx hby at_148 rfl (Ls' := #[.val (.int p1), .val (.int p2), .val (.int p3), .val (.int p4), .val (.int (0 : Int32)), .val (.int (0 : Int32)), .val (.int (0 : Int32)), .val (.int (0 : Int32)), .val (.ref b3), .val (.ref b5), .val (.ref ri11), .unset, .unset]) rfl (pc' := 150) rfl ?_
        obtain ⟨T22, h22, X22, e22, E22, A22, D22, -, st22⟩ := newO X11 hx hZ hown (own_w hw 37 rfl) (own_w hw 38 rfl) (own_w hw 39 rfl) rfl (g := (mkF m 150 #[.val (.int p1), .val (.int p2), .val (.int p3), .val (.int p4), .val (.int (0 : Int32)), .val (.int (0 : Int32)), .val (.int (0 : Int32)), .val (.int (0 : Int32)), .val (.ref b3), .val (.ref b5), .val (.ref ri11), .unset, .unset] [])) rfl (hb hby at_150) (by decide) (by decide)
        obtain ⟨b22, g22⟩ : ∃ z, z = T11.heap.size := ⟨_, rfl⟩
        have ne_b3_b22 : b3 ≠ b22 := Nat.ne_of_lt (g22 ▸ V13_b3.lt)
        have ne_b5_b22 : b5 ≠ b22 := Nat.ne_of_lt (g22 ▸ E14_b5.lt)
        have ne_bb8_b22 : bb8 ≠ b22 := Nat.ne_of_lt (g22 ▸ V17_bb8.lt)
        have ne_aL_b22 : aL ≠ b22 := Nat.ne_of_lt (g22 ▸ E18_aL.lt)
        have ne_bL_b22 : bL ≠ b22 := Nat.ne_of_lt (g22 ▸ V21_bL.lt)
        have S23_COMPACT_STRINGS := S12_COMPACT_STRINGS.ext E22
        have V24_b3 := V13_b3.ext E22
        have E25_b5 := E14_b5.ext E22
        have F26_value := F15_value.ext E22
        have F27_coder := F16_coder.ext E22
        have V28_bb8 := V17_bb8.ext E22
        have E29_aL := E18_aL.ext E22
        have F30_coder := F19_coder.ext E22
        have F31_value := F20_value.ext E22
        have V32_bL := V21_bL.ext E22
        replace hk := Nat.le_trans hk E22.1
        have Z22 : n0 ≤ h22.size := Nat.le_trans Z11 E22.1
        have n0_b22 : n0 ≤ b22 := g22 ▸ Z11
        have O22 := O11.ext E22
        rw [← g22] at A22 D22 st22
        refine own_step st22 ?_
        have F22_id : Fld Z h22 b22 "com/example/tracemass/tracemass/nets/PetriNet$TransitionNode" "id" "Ljava/lang/String;" .null := D22 (Or.inr (own_w hw 50 rfl)) (ty := (.object "java/lang/String")) (by decide)
        have F22_name : Fld Z h22 b22 "com/example/tracemass/tracemass/nets/PetriNet$TransitionNode" "name" "Ljava/lang/String;" .null := D22 (Or.inr (own_w hw 52 rfl)) (ty := (.object "java/lang/String")) (by decide)
        have F22_silent : Fld Z h22 b22 "com/example/tracemass/tracemass/nets/PetriNet$TransitionNode" "silent" "Z" (.int (0 : Int32)) := D22 (Or.inr (own_w hw 54 rfl)) (ty := .boolean) (by decide)
        show GoP p e below Φ (T22.setTop (mkF m 153 #[.val (.int p1), .val (.int p2), .val (.int p3), .val (.int p4), .val (.int (0 : Int32)), .val (.int (0 : Int32)), .val (.int (0 : Int32)), .val (.int (0 : Int32)), .val (.ref b3), .val (.ref b5), .val (.ref ri11), .unset, .unset] [(.ref b22)]))
        refine own_dup X22 hx hby at_153 rfl (pc' := 154) rfl ?_
        refine own_aload X22 hx hby at_154 rfl rfl (pc' := 156) rfl ?_
        refine own_aload X22 hx hby at_156 rfl rfl (pc' := 158) rfl ?_
        refine own_iload X22 hx hby at_158 rfl (pc' := 160) rfl ?_
        refine own_callI X22 hx hby hZ (by exact hml) hown rfl (own_w hw 40 rfl) (own_w hw 41 rfl) (own_w hw 39 rfl) (own_w hw 42 rfl) (by decide) e22 1 (by decide) (by decide) (by decide) (by decide) (argsL := [(.ref ri11), (.ref b5), (.int (0 : Int32))]) (rest := [(.ref b22)]) (lenOf pd__Ljava_lang_String_Ljava_lang_String_Z_V rfl) rfl (Nat.le_of_eq rfl) (rmT_0RR l Z a0 hw b22 ri11 b5 n0 h22 n0_b22 A22 F22_id F22_name F22_silent) at_160 (pc' := 163) rfl ?_
        intro v33 T33 L33 X33 hQ33
        obtain ⟨rfl, Nq33, K33, E33, FN33, FS33⟩ := hQ33
        have S34_COMPACT_STRINGS := own_stakeep S23_COMPACT_STRINGS K33 (allS (own_plainE A22) all0)
        have V35_b3 := V24_b3.keep K33 (ninS ne_b3_b22 nin0)
        have E36_b5 := E25_b5.keep K33
        have F37_value := F26_value.keep K33 (ninS ne_b5_b22 nin0)
        have F38_coder := F27_coder.keep K33 (ninS ne_b5_b22 nin0)
        have V39_bb8 := V28_bb8.keep K33 (ninS ne_bb8_b22 nin0)
        have E40_aL := E29_aL.keep K33
        have F41_coder := F30_coder.keep K33 (ninS ne_aL_b22 nin0)
        have F42_value := F31_value.keep K33 (ninS ne_aL_b22 nin0)
        have V43_bL := V32_bL.keep K33 (ninS ne_bL_b22 nin0)
        have N33 := Fr.app N11 Nq33
        have O33 := O22.keep K33 (allS n0_b22 all0)
        have Z33 : n0 ≤ T33.heap.size := Nat.le_trans Z22 K33.1
        replace hk := Nat.le_trans hk K33.1
        show GoP p e below Φ (T33.setTop (mkF m 163 #[.val (.int p1), .val (.int p2), .val (.int p3), .val (.int p4), .val (.int (0 : Int32)), .val (.int (0 : Int32)), .val (.int (0 : Int32)), .val (.int (0 : Int32)), .val (.ref b3), .val (.ref b5), .val (.ref ri11), .unset, .unset] [(.ref b22)]))
        refine own_astore X33 hx hby at_163 rfl (Ls' := #[.val (.int p1), .val (.int p2), .val (.int p3), .val (.int p4), .val (.int (0 : Int32)), .val (.int (0 : Int32)), .val (.int (0 : Int32)), .val (.int (0 : Int32)), .val (.ref b3), .val (.ref b5), .val (.ref ri11), .val (.ref b22), .unset]) rfl (pc' := 165) rfl ?_
        refine own_aload X33 hx hby at_165 rfl rfl (pc' := 167) rfl ?_
        refine own_callV X33 hx hby hZ (by exact hml) hown (own_w hw 55 rfl) (own_w hw 56 rfl) (own_w hw 58 rfl) (own_w hw 57 rfl) (own_w hw 39 rfl) (own_w hw 59 rfl) (by decide) rfl 0 (by decide) (by decide) (by decide) (by decide) (argsL := []) (rest := []) (lenOf pd___Ljava_lang_String_ rfl) rfl (Nat.le_of_eq rfl) E33 (rmL0 l Z a0 hw b22 b5 T33.heap FS33 FN33) at_167 (pc' := 170) rfl ?_
        intro v45 T45 L45 X45 hQ45
        obtain ⟨rfl, rfl, e45⟩ := hQ45
        rw [List.append_nil] at X45
        replace e45 : T45.heap = T33.heap := e45
        show GoP p e below Φ (T45.setTop (mkF m 170 #[.val (.int p1), .val (.int p2), .val (.int p3), .val (.int p4), .val (.int (0 : Int32)), .val (.int (0 : Int32)), .val (.int (0 : Int32)), .val (.int (0 : Int32)), .val (.ref b3), .val (.ref b5), .val (.ref ri11), .val (.ref b22), .unset] [(.ref b5)]))
        refine own_astore X45 hx hby at_170 rfl (Ls' := #[.val (.int p1), .val (.int p2), .val (.int p3), .val (.int p4), .val (.int (0 : Int32)), .val (.int (0 : Int32)), .val (.int (0 : Int32)), .val (.int (0 : Int32)), .val (.ref b3), .val (.ref b5), .val (.ref ri11), .val (.ref b22), .val (.ref b5)]) rfl (pc' := 172) rfl ?_
        refine own_iload X45 hx hby at_172 rfl (pc' := 174) rfl ?_
        refine own_ifY X45 hx hby at_174 ((if0 _ _).trans (teq (by decide)).1) (by decide) (pc' := 188) (by decide) ?_
        refine own_aload X45 hx hby at_188 rfl rfl (pc' := 190) rfl ?_
        refine own_aload X45 hx hby at_190 rfl rfl (pc' := 192) rfl ?_
        refine own_acmp X45 hx hby at_192 rfl rfl (same := true) (decide_eq_true (congrArg Value.ref rfl)) (by decide) (pc' := 195) (by decide) ?_
        refine own_aload X45 hx hby at_195 rfl rfl (pc' := 197) rfl ?_
        refine own_callV X45 hx hby hZ (by exact hml) hown (own_w hw 60 rfl) (own_w hw 61 rfl) (own_w hw 63 rfl) (own_w hw 62 rfl) (own_w hw 3 rfl) (own_w hw 64 rfl) (by decide) e45 0 (by decide) (by decide) (by decide) (by decide) (argsL := []) (rest := []) (lenOf pd___I rfl) rfl (Nat.le_of_eq rfl) E36_b5 (rmLen0 l Z a0 hw b5 bb8 cs  T33.heap hcs S34_COMPACT_STRINGS E36_b5 F38_coder F37_value V39_bb8) at_197 (pc' := 200) rfl ?_
        intro v46 T46 L46 X46 hQ46
        obtain ⟨rfl, rfl, e46⟩ := hQ46
        rw [List.append_nil] at X46
        replace e46 : T46.heap = T33.heap := e46
        show GoP p e below Φ (T46.setTop (mkF m 200 #[.val (.int p1), .val (.int p2), .val (.int p3), .val (.int p4), .val (.int (0 : Int32)), .val (.int (0 : Int32)), .val (.int (0 : Int32)), .val (.int (0 : Int32)), .val (.ref b3), .val (.ref b5), .val (.ref ri11), .val (.ref b22), .val (.ref b5)] [(.int (0 : Int32))]))
        refine own_iload X46 hx hby at_200 rfl (pc' := 202) rfl ?_
        refine own_icmpN X46 hx hby at_202 (teq (by decide)).2 (pc' := 205) rfl ?_
        refine own_aload X46 hx hby at_205 rfl rfl (pc' := 207) rfl ?_
        obtain ⟨T47, h47, X47, e47, E47, A47, D47, -, st47⟩ := newO X46 hx hZ hown (own_w hw 1 rfl) (own_w hw 2 rfl) (own_w hw 3 rfl) e46 (g := (mkF m 207 #[.val (.int p1), .val (.int p2), .val (.int p3), .val (.int p4), .val (.int (0 : Int32)), .val (.int (0 : Int32)), .val (.int (0 : Int32)), .val (.int (0 : Int32)), .val (.ref b3), .val (.ref b5), .val (.ref ri11), .val (.ref b22), .val (.ref b5)] [(.ref b5)])) rfl (hb hby at_207) (by decide) (by decide)
        obtain ⟨b47, g47⟩ : ∃ z, z = T33.heap.size := ⟨_, rfl⟩
        have ne_b3_b47 : b3 ≠ b47 := Nat.ne_of_lt (g47 ▸ V35_b3.lt)
        have ne_b5_b47 : b5 ≠ b47 := Nat.ne_of_lt (g47 ▸ E36_b5.lt)
        have ne_bb8_b47 : bb8 ≠ b47 := Nat.ne_of_lt (g47 ▸ V39_bb8.lt)
        have ne_aL_b47 : aL ≠ b47 := Nat.ne_of_lt (g47 ▸ E40_aL.lt)
        have ne_bL_b47 : bL ≠ b47 := Nat.ne_of_lt (g47 ▸ V43_bL.lt)
        have ne_b22_b47 : b22 ≠ b47 := Nat.ne_of_lt (g47 ▸ E33.lt)
        have S48_COMPACT_STRINGS := S34_COMPACT_STRINGS.ext E47
        have V49_b3 := V35_b3.ext E47
        have E50_b5 := E36_b5.ext E47
        have F51_value := F37_value.ext E47
        have F52_coder := F38_coder.ext E47
        have V53_bb8 := V39_bb8.ext E47
        have E54_aL := E40_aL.ext E47
        have F55_coder := F41_coder.ext E47
        have F56_value := F42_value.ext E47
        have V57_bL := V43_bL.ext E47
        have E58_b22 := E33.ext E47
        have F59_name := FN33.ext E47
        have F60_silent := FS33.ext E47
        replace hk := Nat.le_trans hk E47.1
        have Z47 : n0 ≤ h47.size := Nat.le_trans Z33 E47.1
        have n0_b47 : n0 ≤ b47 := g47 ▸ Z33
        have O47 := O33.ext E47
        rw [← g47] at A47 D47 st47
        refine own_step st47 ?_
        have F47_value : Fld Z h47 b47 "java/lang/String" "value" "[B" .null := D47 (Or.inr (own_w hw 16 rfl)) (ty := (.array .byte)) (by decide)
        have F47_coder : Fld Z h47 b47 "java/lang/String" "coder" "B" (.int (0 : Int32)) := D47 (Or.inr (own_w hw 17 rfl)) (ty := .byte) (by decide)
        show GoP p e below Φ (T47.setTop (mkF m 210 #[.val (.int p1), .val (.int p2), .val (.int p3), .val (.int p4), .val (.int (0 : Int32)), .val (.int (0 : Int32)), .val (.int (0 : Int32)), .val (.int (0 : Int32)), .val (.ref b3), .val (.ref b5), .val (.ref ri11), .val (.ref b22), .val (.ref b5)] [(.ref b47), (.ref b5)]))
        refine own_dup X47 hx hby at_210 rfl (pc' := 211) rfl ?_
        refine own_aload X47 hx hby at_211 rfl rfl (pc' := 213) rfl ?_
        refine own_callIX X47 hx hby hZ (by exact hml) hown rfl (own_w hw 4 rfl) (own_w hw 5 rfl) (own_w hw 3 rfl) (own_w hw 6 rfl) (by decide) e47 2 (by decide) (by decide) (by decide) (by decide) (argsL := [(.ref b3)]) (rest := [(.ref b47), (.ref b5)]) (lenOf pd___C_V rfl) rfl (Nat.le_of_eq rfl) (rmI1_0 l Z a0 hw b47 b3 n0 h47 n0_b47 Z47 O47.2 hh hcw A47 F47_coder F47_value V49_b3) at_213 (pc' := 216) rfl hS hk own_litS_stays (Or.inr ⟨aL, bL, LL, E54_aL, F55_coder, F56_value, V57_bL⟩) ?_
        clear hS hk hZ hown
        intro v61 T61 L61 X61 hS hk hZ hown hge61 hQ61
        obtain ⟨rfl, Nq61, K61, ⟨aL61, bL61, LL61, EL61, CL61, VL61, BL61⟩, bb61, E61, FC61, FV61, V61⟩ := hQ61
        have S62_COMPACT_STRINGS := own_stakeep S48_COMPACT_STRINGS K61 (allS (own_plainE A47) all0)
        have V63_b3 := V49_b3.keep K61 (ninS ne_b3_b47 nin0)
        have E64_b5 := E50_b5.keep K61
        have F65_value := F51_value.keep K61 (ninS ne_b5_b47 nin0)
        have F66_coder := F52_coder.keep K61 (ninS ne_b5_b47 nin0)
        have V67_bb8 := V53_bb8.keep K61 (ninS ne_bb8_b47 nin0)
        have E68_b22 := E58_b22.keep K61
        have F69_name := F59_name.keep K61 (ninS ne_b22_b47 nin0)
        have F70_silent := F60_silent.keep K61 (ninS ne_b22_b47 nin0)
        have N61 := Fr.app N33 Nq61
        have O61 := O47.keep K61 (allS n0_b47 all0)
        have Z61 : n0 ≤ T61.heap.size := Nat.le_trans Z47 K61.1
        show GoP p e below Φ (T61.setTop (mkF m 216 #[.val (.int p1), .val (.int p2), .val (.int p3), .val (.int p4), .val (.int (0 : Int32)), .val (.int (0 : Int32)), .val (.int (0 : Int32)), .val (.int (0 : Int32)), .val (.ref b3), .val (.ref b5), .val (.ref ri11), .val (.ref b22), .val (.ref b5)] [(.ref b47), (.ref b5)]))
        refine own_callV X61 hx hby hZ (by exact hml) hown (own_w hw 70 rfl) (own_w hw 71 rfl) (own_w hw 73 rfl) (own_w hw 72 rfl) (own_w hw 3 rfl) (own_w hw 74 rfl) (by decide) rfl 0 (by decide) (by decide) (by decide) (by decide) (argsL := [(.ref b47)]) (rest := []) (lenOf pd__Ljava_lang_Object__Z rfl) rfl (Nat.le_of_eq rfl) E64_b5 (rmEq_0 l Z a0 hw b5 b47 bb8 bb61 cs  T61.heap hcs ne_b5_b47 S62_COMPACT_STRINGS E64_b5 F66_coder F65_value V67_bb8 E61 FC61 FV61 V61) at_216 (pc' := 219) rfl ?_
        intro v71 T71 L71 X71 hQ71
        obtain ⟨rfl, rfl, e71⟩ := hQ71
        rw [List.append_nil] at X71
        replace e71 : T71.heap = T61.heap := e71
        show GoP p e below Φ (T71.setTop (mkF m 219 #[.val (.int p1), .val (.int p2), .val (.int p3), .val (.int p4), .val (.int (0 : Int32)), .val (.int (0 : Int32)), .val (.int (0 : Int32)), .val (.int (0 : Int32)), .val (.ref b3), .val (.ref b5), .val (.ref ri11), .val (.ref b22), .val (.ref b5)] [(.int (1 : Int32))]))
        refine own_ifN X71 hx hby at_219 ((if0 _ _).trans (feq (by decide)).1) (pc' := 222) rfl ?_
        refine own_iconst X71 hx hby at_222 (v := (1 : Int32)) rfl (pc' := 223) rfl ?_
        refine own_goto X71 hx hby at_223 (by decide) (pc' := 227) (by decide) ?_
        exact own_retN X71 hx hby (fin _ _ hS) hret (by simp) rfl at_227 (by decide) (by decide) ⟨⟨rfl, N61⟩, (by rw [e71]; exact hk)⟩
      · refine own_iload X hx hby at_51 rfl (pc' := 53) rfl ?_
        refine own_ifY X hx hby at_53 ((if0 _ _).trans (feq (by decide)).2) (by decide) (pc' := 64) (by decide) ?_
        refine own_iload X hx hby at_64 rfl (pc' := 66) rfl ?_
        refine own_iconst X hx hby at_66 (v := (1 : Int32)) rfl (pc' := 67) rfl ?_
        refine own_icmpN X hx hby at_67 (teq (by decide)).2 (pc' := 70) rfl ?_
        refine own_iconst X hx hby at_70 (v := (1 : Int32)) rfl (pc' := 71) rfl ?_
        obtain ⟨T72, h72, k72, X72, e72, E72, A72, st72⟩ := newP X hx hZ (own_w hw 0 rfl) eT (g := (mkF m 71 #[.val (.int p1), .val (.int p2), .val (.int p3), .val (.int p4), .val (.int (0 : Int32)), .val (.int (0 : Int32)), .val (.int (0 : Int32)), .val (.int (1 : Int32)), .unset, .unset, .unset, .unset, .unset] [(.int (1 : Int32))])) rfl (hb hby at_71) rfl (by decide) (cap := 1) (by decide) (by decide) (by decide) (by decide)
        obtain ⟨b72, g72⟩ : ∃ z, z = h0.size := ⟨_, rfl⟩
        have S73_COMPACT_STRINGS := Scs.ext E72
        replace hk := Nat.le_trans hk E72.1
        have Z72 : n0 ≤ h72.size := Nat.le_trans Z0 E72.1
        have n0_b72 : n0 ≤ b72 := g72 ▸ Z0
        have O72 := O0.ext E72
        rw [← g72] at A72 st72
        refine own_step st72 ?_
        have V72 : AV Z h72 b72 .char [(.int (0 : Int32))] := AV.new A72 (by decide)
        show GoP p e below Φ (T72.setTop (mkF m 73 #[.val (.int p1), .val (.int p2), .val (.int p3), .val (.int p4), .val (.int (0 : Int32)), .val (.int (0 : Int32)), .val (.int (0 : Int32)), .val (.int (1 : Int32)), .unset, .unset, .unset, .unset, .unset] [(.ref b72)]))
        refine own_dup X72 hx hby at_73 rfl (pc' := 74) rfl ?_
        refine own_iconst X72 hx hby at_74 (v := (0 : Int32)) rfl (pc' := 75) rfl ?_
        refine own_iloadN X72 hx hby at_75 rfl (pc' := 76) rfl ?_
        refine own_sipush X72 hx hby at_76 (v := (255 : Int32)) rfl (pc' := 79) rfl ?_
        refine own_iand X72 hx hby at_79 (pc' := 80) rfl ?_
        refine own_i2c X72 hx hby at_80 (pc' := 81) rfl ?_
        obtain ⟨y2, ey2, hy2⟩ : ∃ x : Int32, x = (nar .char ((p2 &&& (255 : Int32)).toUInt32.toUInt16.toUInt32.toInt32)) ∧ ¬ (255 : Int32) < x := ⟨_, rfl, own_chr p2⟩
        refine own_castore X72 hx hby hZ e72 V72 (by decide) (Nat.le_of_ble_eq_true rfl) at_81 (pc' := 82) rfl ?_
        intro T74 h74 X74 e74 W74 V74
        replace V74 : AV Z h74 b72 .char [(.int (nar .char ((p2 &&& (255 : Int32)).toUInt32.toUInt16.toUInt32.toInt32)))] := V74
        have S75_COMPACT_STRINGS := S73_COMPACT_STRINGS.wr W74
        replace hk := W74.size.symm ▸ hk
        have Z74 : n0 ≤ h74.size := by rw [W74.size]; exact Z72
        have O74 := O72.wr W74 n0_b72
        have N74 := Fr.snoc X74 N0 n0_b72
        rw [← ey2] at V74
        refine own_astore X74 hx hby at_82 rfl (Ls' := #[.val (.int p1), .val (.int p2), .val (.int p3), .val (.int p4), .val (.int (0 : Int32)), .val (.int (0 : Int32)), .val (.int (0 : Int32)), .val (.int (1 : Int32)), .val (.ref b72), .unset, .unset, .unset, .unset]) rfl (pc' := 84) rfl ?_
        refine own_goto X74 hx hby at_84 (by decide) (pc' := 110) (by decide) ?_
        refine own_iload X74 hx hby at_110 rfl (pc' := 112) rfl ?_
        refine own_ifY X74 hx hby at_112 ((if0 _ _).trans (teq (by decide)).1) (by decide) (pc' := 119) (by decide) ?_
        obtain ⟨T77, h77, X77, e77, E77, A77, D77, -, st77⟩ := newO X74 hx hZ hown (own_w hw 1 rfl) (own_w hw 2 rfl) (own_w hw 3 rfl) e74 (g := (mkF m 119 #[.val (.int p1), .val (.int p2), .val (.int p3), .val (.int p4), .val (.int (0 : Int32)), .val (.int (0 : Int32)), .val (.int (0 : Int32)), .val (.int (1 : Int32)), .val (.ref b72), .unset, .unset, .unset, .unset] [])) rfl (hb hby at_119) (by decide) (by decide)
        obtain ⟨b77, g77⟩ : ∃ z, z = h74.size := ⟨_, rfl⟩
        have ne_b72_b77 : b72 ≠ b77 := Nat.ne_of_lt (g77 ▸ V74.lt)
        have S78_COMPACT_STRINGS := S75_COMPACT_STRINGS.ext E77
        have V79_b72 := V74.ext E77
        replace hk := Nat.le_trans hk E77.1
        have Z77 : n0 ≤ h77.size := Nat.le_trans Z74 E77.1
        have n0_b77 : n0 ≤ b77 := g77 ▸ Z74
        have O77 := O74.ext E77
        rw [← g77] at A77 D77 st77
        refine own_step st77 ?_
        have F77_value : Fld Z h77 b77 "java/lang/String" "value" "[B" .null := D77 (Or.inr (own_w hw 16 rfl)) (ty := (.array .byte)) (by decide)
        have F77_coder : Fld Z h77 b77 "java/lang/String" "coder" "B" (.int (0 : Int32)) := D77 (Or.inr (own_w hw 17 rfl)) (ty := .byte) (by decide)
        show GoP p e below Φ (T77.setTop (mkF m 122 #[.val (.int p1), .val (.int p2), .val (.int p3), .val (.int p4), .val (.int (0 : Int32)), .val (.int (0 : Int32)), .val (.int (0 : Int32)), .val (.int (1 : Int32)), .val (.ref b72), .unset, .unset, .unset, .unset] [(.ref b77)]))
        refine own_dup X77 hx hby at_122 rfl (pc' := 123) rfl ?_
        refine own_aload X77 hx hby at_123 rfl rfl (pc' := 125) rfl ?_
        refine own_callI X77 hx hby hZ (by exact hml) hown rfl (own_w hw 4 rfl) (own_w hw 5 rfl) (own_w hw 3 rfl) (own_w hw 6 rfl) (by decide) e77 1 (by decide) (by decide) (by decide) (by decide) (argsL := [(.ref b72)]) (rest := [(.ref b77)]) (lenOf pd___C_V rfl) rfl (Nat.le_of_eq rfl) (rmI1_1 l Z a0 hw b77 b72 cs y2 n0 h77 hcs hy2 n0_b77 Z77 (Ne.symm ne_b72_b77) S78_COMPACT_STRINGS A77 F77_coder F77_value V79_b72) at_125 (pc' := 128) rfl ?_
        intro v80 T80 L80 X80 hQ80
        obtain ⟨rfl, Nq80, K80, bb80, sb80, E80, FC80, FV80, V80⟩ := hQ80
        have ne_b72_bb80 : b72 ≠ bb80 := Nat.ne_of_lt (Nat.lt_of_lt_of_le V79_b72.lt sb80)
        have ne_b77_bb80 : b77 ≠ bb80 := Nat.ne_of_lt (Nat.lt_of_lt_of_le A77.lt sb80)
        have S81_COMPACT_STRINGS := own_stakeep S78_COMPACT_STRINGS K80 (allS (own_plainE A77) all0)
        have V82_b72 := V79_b72.keep K80 (ninS ne_b72_b77 nin0)
        have N80 := Fr.app N74 Nq80
        have O80 := O77.keep K80 (allS n0_b77 all0)
        have Z80 : n0 ≤ T80.heap.size := Nat.le_trans Z77 K80.1
        replace hk := Nat.le_trans hk K80.1
        show GoP p e below Φ (T80.setTop (mkF m 128 #[.val (.int p1), .val (.int p2), .val (.int p3), .val (.int p4), .val (.int (0 : Int32)), .val (.int (0 : Int32)), .val (.int (0 : Int32)), .val (.int (1 : Int32)), .val (.ref b72), .unset, .unset, .unset, .unset] [(.ref b77)]))
        refine own_astore X80 hx hby at_128 rfl (Ls' := #[.val (.int p1), .val (.int p2), .val (.int p3), .val (.int p4), .val (.int (0 : Int32)), .val (.int (0 : Int32)), .val (.int (0 : Int32)), .val (.int (1 : Int32)), .val (.ref b72), .val (.ref b77), .unset, .unset, .unset]) rfl (pc' := 130) rfl ?_
        refine own_iload X80 hx hby at_130 rfl (pc' := 132) rfl ?_
        refine own_ifY X80 hx hby at_132 ((if0 _ _).trans (teq (by decide)).1) (by decide) (pc' := 139) (by decide) ?_
        refine own_iloadN X80 hx hby at_139 rfl (pc' := 140) rfl ?_
        refine own_sipush X80 hx hby at_140 (v := (255 : Int32)) rfl (pc' := 143) rfl ?_
        refine own_iand X80 hx hby at_143 (pc' := 144) rfl ?_
        refine own_i2c X80 hx hby at_144 (pc' := 145) rfl ?_
        refine own_callS X80 hx hby hZ (by exact hml) hown (own_w hw 22 rfl) (own_w hw 23 rfl) (own_w hw 3 rfl) (own_w hw 24 rfl) (by decide) rfl 0 (by decide) (by decide) (by decide) (by decide) (argsL := [(.int ((p4 &&& (255 : Int32)).toUInt32.toUInt16.toUInt32.toInt32))]) (rest := []) (lenOf pd__C_Ljava_lang_String_ rfl) rfl (rmVO l Z a0 hw ((p4 &&& (255 : Int32)).toUInt32.toUInt16.toUInt32.toInt32) cs n0 T80.heap (own_chr1 p4) hcs Z80 S81_COMPACT_STRINGS) (Nat.le_of_eq rfl) at_145 (pc' := 148) rfl ?_
        intro v83 T83 L83 X83 hQ83
        obtain ⟨ri83, rfl, Nq83, K83, sr83⟩ := hQ83
        have S84_COMPACT_STRINGS := own_stakeep S81_COMPACT_STRINGS K83 all0
        have V85_b72 := V82_b72.keep K83 nin0
        have E86_b77 := E80.keep K83
        have F87_value := FV80.keep K83 nin0
        have F88_coder := FC80.keep K83 nin0
        have V89_bb80 := V80.keep K83 nin0
        have N83 := Fr.app N80 Nq83
        have O83 := O80.keep K83 all0
        have Z83 : n0 ≤ T83.heap.size := Nat.le_trans Z80 K83.1
        replace hk := Nat.le_trans hk K83.1
        show GoP p e below Φ (T83.setTop (mkF m 148 #[.val (.int p1), .val (.int p2), .val (.int p3), .val (.int p4), .val (.int (0 : Int32)), .val (.int (0 : Int32)), .val (.int (0 : Int32)), .val (.int (1 : Int32)), .val (.ref b72), .val (.ref b77), .unset, .unset, .unset] [(.ref ri83)]))
        refine own_astore X83 hx hby at_148 rfl (Ls' := #[.val (.int p1), .val (.int p2), .val (.int p3), .val (.int p4), .val (.int (0 : Int32)), .val (.int (0 : Int32)), .val (.int (0 : Int32)), .val (.int (1 : Int32)), .val (.ref b72), .val (.ref b77), .val (.ref ri83), .unset, .unset]) rfl (pc' := 150) rfl ?_
        obtain ⟨T90, h90, X90, e90, E90, A90, D90, -, st90⟩ := newO X83 hx hZ hown (own_w hw 37 rfl) (own_w hw 38 rfl) (own_w hw 39 rfl) rfl (g := (mkF m 150 #[.val (.int p1), .val (.int p2), .val (.int p3), .val (.int p4), .val (.int (0 : Int32)), .val (.int (0 : Int32)), .val (.int (0 : Int32)), .val (.int (1 : Int32)), .val (.ref b72), .val (.ref b77), .val (.ref ri83), .unset, .unset] [])) rfl (hb hby at_150) (by decide) (by decide)
        obtain ⟨b90, g90⟩ : ∃ z, z = T83.heap.size := ⟨_, rfl⟩
        have ne_b72_b90 : b72 ≠ b90 := Nat.ne_of_lt (g90 ▸ V85_b72.lt)
        have ne_b77_b90 : b77 ≠ b90 := Nat.ne_of_lt (g90 ▸ E86_b77.lt)
        have ne_bb80_b90 : bb80 ≠ b90 := Nat.ne_of_lt (g90 ▸ V89_bb80.lt)
        have S91_COMPACT_STRINGS := S84_COMPACT_STRINGS.ext E90
        have V92_b72 := V85_b72.ext E90
        have E93_b77 := E86_b77.ext E90
        have F94_value := F87_value.ext E90
        have F95_coder := F88_coder.ext E90
        have V96_bb80 := V89_bb80.ext E90
        replace hk := Nat.le_trans hk E90.1
        have Z90 : n0 ≤ h90.size := Nat.le_trans Z83 E90.1
        have n0_b90 : n0 ≤ b90 := g90 ▸ Z83
        have O90 := O83.ext E90
        rw [← g90] at A90 D90 st90
        refine own_step st90 ?_
        have F90_id : Fld Z h90 b90 "com/example/tracemass/tracemass/nets/PetriNet$TransitionNode" "id" "Ljava/lang/String;" .null := D90 (Or.inr (own_w hw 50 rfl)) (ty := (.object "java/lang/String")) (by decide)
        have F90_name : Fld Z h90 b90 "com/example/tracemass/tracemass/nets/PetriNet$TransitionNode" "name" "Ljava/lang/String;" .null := D90 (Or.inr (own_w hw 52 rfl)) (ty := (.object "java/lang/String")) (by decide)
        have F90_silent : Fld Z h90 b90 "com/example/tracemass/tracemass/nets/PetriNet$TransitionNode" "silent" "Z" (.int (0 : Int32)) := D90 (Or.inr (own_w hw 54 rfl)) (ty := .boolean) (by decide)
        show GoP p e below Φ (T90.setTop (mkF m 153 #[.val (.int p1), .val (.int p2), .val (.int p3), .val (.int p4), .val (.int (0 : Int32)), .val (.int (0 : Int32)), .val (.int (0 : Int32)), .val (.int (1 : Int32)), .val (.ref b72), .val (.ref b77), .val (.ref ri83), .unset, .unset] [(.ref b90)]))
        refine own_dup X90 hx hby at_153 rfl (pc' := 154) rfl ?_
        refine own_aload X90 hx hby at_154 rfl rfl (pc' := 156) rfl ?_
        refine own_aload X90 hx hby at_156 rfl rfl (pc' := 158) rfl ?_
        refine own_iload X90 hx hby at_158 rfl (pc' := 160) rfl ?_
        refine own_callI X90 hx hby hZ (by exact hml) hown rfl (own_w hw 40 rfl) (own_w hw 41 rfl) (own_w hw 39 rfl) (own_w hw 42 rfl) (by decide) e90 1 (by decide) (by decide) (by decide) (by decide) (argsL := [(.ref ri83), (.ref b77), (.int (0 : Int32))]) (rest := [(.ref b90)]) (lenOf pd__Ljava_lang_String_Ljava_lang_String_Z_V rfl) rfl (Nat.le_of_eq rfl) (rmT_0RR l Z a0 hw b90 ri83 b77 n0 h90 n0_b90 A90 F90_id F90_name F90_silent) at_160 (pc' := 163) rfl ?_
        intro v97 T97 L97 X97 hQ97
        obtain ⟨rfl, Nq97, K97, E97, FN97, FS97⟩ := hQ97
        have S98_COMPACT_STRINGS := own_stakeep S91_COMPACT_STRINGS K97 (allS (own_plainE A90) all0)
        have V99_b72 := V92_b72.keep K97 (ninS ne_b72_b90 nin0)
        have E100_b77 := E93_b77.keep K97
        have F101_value := F94_value.keep K97 (ninS ne_b77_b90 nin0)
        have F102_coder := F95_coder.keep K97 (ninS ne_b77_b90 nin0)
        have V103_bb80 := V96_bb80.keep K97 (ninS ne_bb80_b90 nin0)
        have N97 := Fr.app N83 Nq97
        have O97 := O90.keep K97 (allS n0_b90 all0)
        have Z97 : n0 ≤ T97.heap.size := Nat.le_trans Z90 K97.1
        replace hk := Nat.le_trans hk K97.1
        show GoP p e below Φ (T97.setTop (mkF m 163 #[.val (.int p1), .val (.int p2), .val (.int p3), .val (.int p4), .val (.int (0 : Int32)), .val (.int (0 : Int32)), .val (.int (0 : Int32)), .val (.int (1 : Int32)), .val (.ref b72), .val (.ref b77), .val (.ref ri83), .unset, .unset] [(.ref b90)]))
        refine own_astore X97 hx hby at_163 rfl (Ls' := #[.val (.int p1), .val (.int p2), .val (.int p3), .val (.int p4), .val (.int (0 : Int32)), .val (.int (0 : Int32)), .val (.int (0 : Int32)), .val (.int (1 : Int32)), .val (.ref b72), .val (.ref b77), .val (.ref ri83), .val (.ref b90), .unset]) rfl (pc' := 165) rfl ?_
        refine own_aload X97 hx hby at_165 rfl rfl (pc' := 167) rfl ?_
        refine own_callV X97 hx hby hZ (by exact hml) hown (own_w hw 55 rfl) (own_w hw 56 rfl) (own_w hw 58 rfl) (own_w hw 57 rfl) (own_w hw 39 rfl) (own_w hw 59 rfl) (by decide) rfl 0 (by decide) (by decide) (by decide) (by decide) (argsL := []) (rest := []) (lenOf pd___Ljava_lang_String_ rfl) rfl (Nat.le_of_eq rfl) E97 (rmL0 l Z a0 hw b90 b77 T97.heap FS97 FN97) at_167 (pc' := 170) rfl ?_
        intro v105 T105 L105 X105 hQ105
        obtain ⟨rfl, rfl, e105⟩ := hQ105
        rw [List.append_nil] at X105
        replace e105 : T105.heap = T97.heap := e105
        show GoP p e below Φ (T105.setTop (mkF m 170 #[.val (.int p1), .val (.int p2), .val (.int p3), .val (.int p4), .val (.int (0 : Int32)), .val (.int (0 : Int32)), .val (.int (0 : Int32)), .val (.int (1 : Int32)), .val (.ref b72), .val (.ref b77), .val (.ref ri83), .val (.ref b90), .unset] [(.ref b77)]))
        refine own_astore X105 hx hby at_170 rfl (Ls' := #[.val (.int p1), .val (.int p2), .val (.int p3), .val (.int p4), .val (.int (0 : Int32)), .val (.int (0 : Int32)), .val (.int (0 : Int32)), .val (.int (1 : Int32)), .val (.ref b72), .val (.ref b77), .val (.ref ri83), .val (.ref b90), .val (.ref b77)]) rfl (pc' := 172) rfl ?_
        refine own_iload X105 hx hby at_172 rfl (pc' := 174) rfl ?_
        refine own_ifY X105 hx hby at_174 ((if0 _ _).trans (teq (by decide)).1) (by decide) (pc' := 188) (by decide) ?_
        refine own_aload X105 hx hby at_188 rfl rfl (pc' := 190) rfl ?_
        refine own_aload X105 hx hby at_190 rfl rfl (pc' := 192) rfl ?_
        refine own_acmp X105 hx hby at_192 rfl rfl (same := true) (decide_eq_true (congrArg Value.ref rfl)) (by decide) (pc' := 195) (by decide) ?_
        refine own_aload X105 hx hby at_195 rfl rfl (pc' := 197) rfl ?_
        refine own_callV X105 hx hby hZ (by exact hml) hown (own_w hw 60 rfl) (own_w hw 61 rfl) (own_w hw 63 rfl) (own_w hw 62 rfl) (own_w hw 3 rfl) (own_w hw 64 rfl) (by decide) e105 0 (by decide) (by decide) (by decide) (by decide) (argsL := []) (rest := []) (lenOf pd___I rfl) rfl (Nat.le_of_eq rfl) E100_b77 (rmLen1 l Z a0 hw b77 bb80 cs (nar .byte (y2.toInt8.toInt32)) T97.heap hcs S98_COMPACT_STRINGS E100_b77 F102_coder F101_value V103_bb80) at_197 (pc' := 200) rfl ?_
        intro v106 T106 L106 X106 hQ106
        obtain ⟨rfl, rfl, e106⟩ := hQ106
        rw [List.append_nil] at X106
        replace e106 : T106.heap = T97.heap := e106
        show GoP p e below Φ (T106.setTop (mkF m 200 #[.val (.int p1), .val (.int p2), .val (.int p3), .val (.int p4), .val (.int (0 : Int32)), .val (.int (0 : Int32)), .val (.int (0 : Int32)), .val (.int (1 : Int32)), .val (.ref b72), .val (.ref b77), .val (.ref ri83), .val (.ref b90), .val (.ref b77)] [(.int (1 : Int32))]))
        refine own_iload X106 hx hby at_200 rfl (pc' := 202) rfl ?_
        refine own_icmpN X106 hx hby at_202 (teq (by decide)).2 (pc' := 205) rfl ?_
        refine own_aload X106 hx hby at_205 rfl rfl (pc' := 207) rfl ?_
        obtain ⟨T107, h107, X107, e107, E107, A107, D107, -, st107⟩ := newO X106 hx hZ hown (own_w hw 1 rfl) (own_w hw 2 rfl) (own_w hw 3 rfl) e106 (g := (mkF m 207 #[.val (.int p1), .val (.int p2), .val (.int p3), .val (.int p4), .val (.int (0 : Int32)), .val (.int (0 : Int32)), .val (.int (0 : Int32)), .val (.int (1 : Int32)), .val (.ref b72), .val (.ref b77), .val (.ref ri83), .val (.ref b90), .val (.ref b77)] [(.ref b77)])) rfl (hb hby at_207) (by decide) (by decide)
        obtain ⟨b107, g107⟩ : ∃ z, z = T97.heap.size := ⟨_, rfl⟩
        have ne_b72_b107 : b72 ≠ b107 := Nat.ne_of_lt (g107 ▸ V99_b72.lt)
        have ne_b77_b107 : b77 ≠ b107 := Nat.ne_of_lt (g107 ▸ E100_b77.lt)
        have ne_bb80_b107 : bb80 ≠ b107 := Nat.ne_of_lt (g107 ▸ V103_bb80.lt)
        have ne_b90_b107 : b90 ≠ b107 := Nat.ne_of_lt (g107 ▸ E97.lt)
        have S108_COMPACT_STRINGS := S98_COMPACT_STRINGS.ext E107
        have V109_b72 := V99_b72.ext E107
        have E110_b77 := E100_b77.ext E107
        have F111_value := F101_value.ext E107
        have F112_coder := F102_coder.ext E107
        have V113_bb80 := V103_bb80.ext E107
        have E114_b90 := E97.ext E107
        have F115_name := FN97.ext E107
        have F116_silent := FS97.ext E107
        replace hk := Nat.le_trans hk E107.1
        have Z107 : n0 ≤ h107.size := Nat.le_trans Z97 E107.1
        have n0_b107 : n0 ≤ b107 := g107 ▸ Z97
        have O107 := O97.ext E107
        rw [← g107] at A107 D107 st107
        refine own_step st107 ?_
        have F107_value : Fld Z h107 b107 "java/lang/String" "value" "[B" .null := D107 (Or.inr (own_w hw 16 rfl)) (ty := (.array .byte)) (by decide)
        have F107_coder : Fld Z h107 b107 "java/lang/String" "coder" "B" (.int (0 : Int32)) := D107 (Or.inr (own_w hw 17 rfl)) (ty := .byte) (by decide)
        show GoP p e below Φ (T107.setTop (mkF m 210 #[.val (.int p1), .val (.int p2), .val (.int p3), .val (.int p4), .val (.int (0 : Int32)), .val (.int (0 : Int32)), .val (.int (0 : Int32)), .val (.int (1 : Int32)), .val (.ref b72), .val (.ref b77), .val (.ref ri83), .val (.ref b90), .val (.ref b77)] [(.ref b107), (.ref b77)]))
        refine own_dup X107 hx hby at_210 rfl (pc' := 211) rfl ?_
        refine own_aload X107 hx hby at_211 rfl rfl (pc' := 213) rfl ?_
        refine own_callI X107 hx hby hZ (by exact hml) hown rfl (own_w hw 4 rfl) (own_w hw 5 rfl) (own_w hw 3 rfl) (own_w hw 6 rfl) (by decide) e107 2 (by decide) (by decide) (by decide) (by decide) (argsL := [(.ref b72)]) (rest := [(.ref b107), (.ref b77)]) (lenOf pd___C_V rfl) rfl (Nat.le_of_eq rfl) (rmI1_1 l Z a0 hw b107 b72 cs y2 n0 h107 hcs hy2 n0_b107 Z107 (Ne.symm ne_b72_b107) S108_COMPACT_STRINGS A107 F107_coder F107_value V109_b72) at_213 (pc' := 216) rfl ?_
        intro v117 T117 L117 X117 hQ117
        obtain ⟨rfl, Nq117, K117, bb117, sb117, E117, FC117, FV117, V117⟩ := hQ117
        have ne_b72_bb117 : b72 ≠ bb117 := Nat.ne_of_lt (Nat.lt_of_lt_of_le V109_b72.lt sb117)
        have ne_b77_bb117 : b77 ≠ bb117 := Nat.ne_of_lt (Nat.lt_of_lt_of_le E110_b77.lt sb117)
        have ne_bb80_bb117 : bb80 ≠ bb117 := Nat.ne_of_lt (Nat.lt_of_lt_of_le V113_bb80.lt sb117)
        have ne_b90_bb117 : b90 ≠ bb117 := Nat.ne_of_lt (Nat.lt_of_lt_of_le E114_b90.lt sb117)
        have ne_b107_bb117 : b107 ≠ bb117 := Nat.ne_of_lt (Nat.lt_of_lt_of_le A107.lt sb117)
        have S118_COMPACT_STRINGS := own_stakeep S108_COMPACT_STRINGS K117 (allS (own_plainE A107) all0)
        have V119_b72 := V109_b72.keep K117 (ninS ne_b72_b107 nin0)
        have E120_b77 := E110_b77.keep K117
        have F121_value := F111_value.keep K117 (ninS ne_b77_b107 nin0)
        have F122_coder := F112_coder.keep K117 (ninS ne_b77_b107 nin0)
        have V123_bb80 := V113_bb80.keep K117 (ninS ne_bb80_b107 nin0)
        have E124_b90 := E114_b90.keep K117
        have F125_name := F115_name.keep K117 (ninS ne_b90_b107 nin0)
        have F126_silent := F116_silent.keep K117 (ninS ne_b90_b107 nin0)
        have N117 := Fr.app N97 Nq117
        have O117 := O107.keep K117 (allS n0_b107 all0)
        have Z117 : n0 ≤ T117.heap.size := Nat.le_trans Z107 K117.1
        replace hk := Nat.le_trans hk K117.1
        show GoP p e below Φ (T117.setTop (mkF m 216 #[.val (.int p1), .val (.int p2), .val (.int p3), .val (.int p4), .val (.int (0 : Int32)), .val (.int (0 : Int32)), .val (.int (0 : Int32)), .val (.int (1 : Int32)), .val (.ref b72), .val (.ref b77), .val (.ref ri83), .val (.ref b90), .val (.ref b77)] [(.ref b107), (.ref b77)]))
        refine own_callV X117 hx hby hZ (by exact hml) hown (own_w hw 70 rfl) (own_w hw 71 rfl) (own_w hw 73 rfl) (own_w hw 72 rfl) (own_w hw 3 rfl) (own_w hw 74 rfl) (by decide) rfl 0 (by decide) (by decide) (by decide) (by decide) (argsL := [(.ref b107)]) (rest := []) (lenOf pd__Ljava_lang_Object__Z rfl) rfl (Nat.le_of_eq rfl) E120_b77 (rmEq_1 l Z a0 hw b77 b107 bb80 bb117 cs (nar .byte (y2.toInt8.toInt32)) T117.heap hcs ne_b77_b107 S118_COMPACT_STRINGS E120_b77 F122_coder F121_value V123_bb80 E117 FC117 FV117 V117) at_216 (pc' := 219) rfl ?_
        intro v127 T127 L127 X127 hQ127
        obtain ⟨rfl, rfl, e127⟩ := hQ127
        rw [List.append_nil] at X127
        replace e127 : T127.heap = T117.heap := e127
        show GoP p e below Φ (T127.setTop (mkF m 219 #[.val (.int p1), .val (.int p2), .val (.int p3), .val (.int p4), .val (.int (0 : Int32)), .val (.int (0 : Int32)), .val (.int (0 : Int32)), .val (.int (1 : Int32)), .val (.ref b72), .val (.ref b77), .val (.ref ri83), .val (.ref b90), .val (.ref b77)] [(.int (1 : Int32))]))
        refine own_ifN X127 hx hby at_219 ((if0 _ _).trans (feq (by decide)).1) (pc' := 222) rfl ?_
        refine own_iconst X127 hx hby at_222 (v := (1 : Int32)) rfl (pc' := 223) rfl ?_
        refine own_goto X127 hx hby at_223 (by decide) (pc' := 227) (by decide) ?_
        exact own_retN X127 hx hby (fin _ _ hS) hret (by simp) rfl at_227 (by decide) (by decide) ⟨⟨rfl, N117⟩, (by rw [e127]; exact hk)⟩
      · refine own_iload X hx hby at_51 rfl (pc' := 53) rfl ?_
        refine own_ifY X hx hby at_53 ((if0 _ _).trans (feq (by decide)).2) (by decide) (pc' := 64) (by decide) ?_
        refine own_iload X hx hby at_64 rfl (pc' := 66) rfl ?_
        refine own_iconst X hx hby at_66 (v := (1 : Int32)) rfl (pc' := 67) rfl ?_
        refine own_icmpY X hx hby at_67 (feq (by decide)).2 (by decide) (pc' := 87) (by decide) ?_
        refine own_iconst X hx hby at_87 (v := (2 : Int32)) rfl (pc' := 88) rfl ?_
        obtain ⟨T128, h128, k128, X128, e128, E128, A128, st128⟩ := newP X hx hZ (own_w hw 0 rfl) eT (g := (mkF m 88 #[.val (.int p1), .val (.int p2), .val (.int p3), .val (.int p4), .val (.int (0 : Int32)), .val (.int (0 : Int32)), .val (.int (0 : Int32)), .val (.int (2 : Int32)), .unset, .unset, .unset, .unset, .unset] [(.int (2 : Int32))])) rfl (hb hby at_88) rfl (by decide) (cap := 2) (by decide) (by decide) (by decide) (by decide)
        obtain ⟨b128, g128⟩ : ∃ z, z = h0.size := ⟨_, rfl⟩
        have S129_COMPACT_STRINGS := Scs.ext E128
        replace hk := Nat.le_trans hk E128.1
        have Z128 : n0 ≤ h128.size := Nat.le_trans Z0 E128.1
        have n0_b128 : n0 ≤ b128 := g128 ▸ Z0
        have O128 := O0.ext E128
        rw [← g128] at A128 st128
        refine own_step st128 ?_
        have V128 : AV Z h128 b128 .char [(.int (0 : Int32)), (.int (0 : Int32))] := AV.new A128 (by decide)
        show GoP p e below Φ (T128.setTop (mkF m 90 #[.val (.int p1), .val (.int p2), .val (.int p3), .val (.int p4), .val (.int (0 : Int32)), .val (.int (0 : Int32)), .val (.int (0 : Int32)), .val (.int (2 : Int32)), .unset, .unset, .unset, .unset, .unset] [(.ref b128)]))
        refine own_dup X128 hx hby at_90 rfl (pc' := 91) rfl ?_
        refine own_iconst X128 hx hby at_91 (v := (0 : Int32)) rfl (pc' := 92) rfl ?_
        refine own_iloadN X128 hx hby at_92 rfl (pc' := 93) rfl ?_
        refine own_sipush X128 hx hby at_93 (v := (255 : Int32)) rfl (pc' := 96) rfl ?_
        refine own_iand X128 hx hby at_96 (pc' := 97) rfl ?_
        refine own_i2c X128 hx hby at_97 (pc' := 98) rfl ?_
        obtain ⟨y2, ey2, hy2⟩ : ∃ x : Int32, x = (nar .char ((p2 &&& (255 : Int32)).toUInt32.toUInt16.toUInt32.toInt32)) ∧ ¬ (255 : Int32) < x := ⟨_, rfl, own_chr p2⟩
        refine own_castore X128 hx hby hZ e128 V128 (by decide) (Nat.le_of_ble_eq_true rfl) at_98 (pc' := 99) rfl ?_
        intro T130 h130 X130 e130 W130 V130
        replace V130 : AV Z h130 b128 .char [(.int (nar .char ((p2 &&& (255 : Int32)).toUInt32.toUInt16.toUInt32.toInt32))), (.int (0 : Int32))] := V130
        have S131_COMPACT_STRINGS := S129_COMPACT_STRINGS.wr W130
        replace hk := W130.size.symm ▸ hk
        have Z130 : n0 ≤ h130.size := by rw [W130.size]; exact Z128
        have O130 := O128.wr W130 n0_b128
        have N130 := Fr.snoc X130 N0 n0_b128
        rw [← ey2] at V130
        refine own_dup X130 hx hby at_99 rfl (pc' := 100) rfl ?_
        refine own_iconst X130 hx hby at_100 (v := (1 : Int32)) rfl (pc' := 101) rfl ?_
        refine own_iloadN X130 hx hby at_101 rfl (pc' := 102) rfl ?_
        refine own_sipush X130 hx hby at_102 (v := (255 : Int32)) rfl (pc' := 105) rfl ?_
        refine own_iand X130 hx hby at_105 (pc' := 106) rfl ?_
        refine own_i2c X130 hx hby at_106 (pc' := 107) rfl ?_
        obtain ⟨y3, ey3, hy3⟩ : ∃ x : Int32, x = (nar .char ((p3 &&& (255 : Int32)).toUInt32.toUInt16.toUInt32.toInt32)) ∧ ¬ (255 : Int32) < x := ⟨_, rfl, own_chr p3⟩
        refine own_castore X130 hx hby hZ e130 V130 (by decide) (Nat.le_of_ble_eq_true rfl) at_107 (pc' := 108) rfl ?_
        intro T133 h133 X133 e133 W133 V133
        replace V133 : AV Z h133 b128 .char [(.int y2), (.int (nar .char ((p3 &&& (255 : Int32)).toUInt32.toUInt16.toUInt32.toInt32)))] := V133
        have S134_COMPACT_STRINGS := S131_COMPACT_STRINGS.wr W133
        replace hk := W133.size.symm ▸ hk
        have Z133 : n0 ≤ h133.size := by rw [W133.size]; exact Z130
        have O133 := O130.wr W133 n0_b128
        have N133 := Fr.snoc X133 N130 n0_b128
        rw [← ey3] at V133
        refine own_astore X133 hx hby at_108 rfl (Ls' := #[.val (.int p1), .val (.int p2), .val (.int p3), .val (.int p4), .val (.int (0 : Int32)), .val (.int (0 : Int32)), .val (.int (0 : Int32)), .val (.int (2 : Int32)), .val (.ref b128), .unset, .unset, .unset, .unset]) rfl (pc' := 110) rfl ?_
        refine own_iload X133 hx hby at_110 rfl (pc' := 112) rfl ?_
        refine own_ifY X133 hx hby at_112 ((if0 _ _).trans (teq (by decide)).1) (by decide) (pc' := 119) (by decide) ?_
        obtain ⟨T136, h136, X136, e136, E136, A136, D136, -, st136⟩ := newO X133 hx hZ hown (own_w hw 1 rfl) (own_w hw 2 rfl) (own_w hw 3 rfl) e133 (g := (mkF m 119 #[.val (.int p1), .val (.int p2), .val (.int p3), .val (.int p4), .val (.int (0 : Int32)), .val (.int (0 : Int32)), .val (.int (0 : Int32)), .val (.int (2 : Int32)), .val (.ref b128), .unset, .unset, .unset, .unset] [])) rfl (hb hby at_119) (by decide) (by decide)
        obtain ⟨b136, g136⟩ : ∃ z, z = h133.size := ⟨_, rfl⟩
        have ne_b128_b136 : b128 ≠ b136 := Nat.ne_of_lt (g136 ▸ V133.lt)
        have S137_COMPACT_STRINGS := S134_COMPACT_STRINGS.ext E136
        have V138_b128 := V133.ext E136
        replace hk := Nat.le_trans hk E136.1
        have Z136 : n0 ≤ h136.size := Nat.le_trans Z133 E136.1
        have n0_b136 : n0 ≤ b136 := g136 ▸ Z133
        have O136 := O133.ext E136
        rw [← g136] at A136 D136 st136
        refine own_step st136 ?_
        have F136_value : Fld Z h136 b136 "java/lang/String" "value" "[B" .null := D136 (Or.inr (own_w hw 16 rfl)) (ty := (.array .byte)) (by decide)
        have F136_coder : Fld Z h136 b136 "java/lang/String" "coder" "B" (.int (0 : Int32)) := D136 (Or.inr (own_w hw 17 rfl)) (ty := .byte) (by decide)
        show GoP p e below Φ (T136.setTop (mkF m 122 #[.val (.int p1), .val (.int p2), .val (.int p3), .val (.int p4), .val (.int (0 : Int32)), .val (.int (0 : Int32)), .val (.int (0 : Int32)), .val (.int (2 : Int32)), .val (.ref b128), .unset, .unset, .unset, .unset] [(.ref b136)]))
        refine own_dup X136 hx hby at_122 rfl (pc' := 123) rfl ?_
        refine own_aload X136 hx hby at_123 rfl rfl (pc' := 125) rfl ?_
        refine own_callI X136 hx hby hZ (by exact hml) hown rfl (own_w hw 4 rfl) (own_w hw 5 rfl) (own_w hw 3 rfl) (own_w hw 6 rfl) (by decide) e136 1 (by decide) (by decide) (by decide) (by decide) (argsL := [(.ref b128)]) (rest := [(.ref b136)]) (lenOf pd___C_V rfl) rfl (Nat.le_of_eq rfl) (rmI1_2 l Z a0 hw b136 b128 cs y2 y3 n0 h136 hcs hy2 hy3 n0_b136 Z136 (Ne.symm ne_b128_b136) S137_COMPACT_STRINGS A136 F136_coder F136_value V138_b128) at_125 (pc' := 128) rfl ?_
        intro v139 T139 L139 X139 hQ139
        obtain ⟨rfl, Nq139, K139, bb139, sb139, E139, FC139, FV139, V139⟩ := hQ139
        have ne_b128_bb139 : b128 ≠ bb139 := Nat.ne_of_lt (Nat.lt_of_lt_of_le V138_b128.lt sb139)
        have ne_b136_bb139 : b136 ≠ bb139 := Nat.ne_of_lt (Nat.lt_of_lt_of_le A136.lt sb139)
        have S140_COMPACT_STRINGS := own_stakeep S137_COMPACT_STRINGS K139 (allS (own_plainE A136) all0)
        have V141_b128 := V138_b128.keep K139 (ninS ne_b128_b136 nin0)
        have N139 := Fr.app N133 Nq139
        have O139 := O136.keep K139 (allS n0_b136 all0)
        have Z139 : n0 ≤ T139.heap.size := Nat.le_trans Z136 K139.1
        replace hk := Nat.le_trans hk K139.1
        show GoP p e below Φ (T139.setTop (mkF m 128 #[.val (.int p1), .val (.int p2), .val (.int p3), .val (.int p4), .val (.int (0 : Int32)), .val (.int (0 : Int32)), .val (.int (0 : Int32)), .val (.int (2 : Int32)), .val (.ref b128), .unset, .unset, .unset, .unset] [(.ref b136)]))
        refine own_astore X139 hx hby at_128 rfl (Ls' := #[.val (.int p1), .val (.int p2), .val (.int p3), .val (.int p4), .val (.int (0 : Int32)), .val (.int (0 : Int32)), .val (.int (0 : Int32)), .val (.int (2 : Int32)), .val (.ref b128), .val (.ref b136), .unset, .unset, .unset]) rfl (pc' := 130) rfl ?_
        refine own_iload X139 hx hby at_130 rfl (pc' := 132) rfl ?_
        refine own_ifY X139 hx hby at_132 ((if0 _ _).trans (teq (by decide)).1) (by decide) (pc' := 139) (by decide) ?_
        refine own_iloadN X139 hx hby at_139 rfl (pc' := 140) rfl ?_
        refine own_sipush X139 hx hby at_140 (v := (255 : Int32)) rfl (pc' := 143) rfl ?_
        refine own_iand X139 hx hby at_143 (pc' := 144) rfl ?_
        refine own_i2c X139 hx hby at_144 (pc' := 145) rfl ?_
        refine own_callS X139 hx hby hZ (by exact hml) hown (own_w hw 22 rfl) (own_w hw 23 rfl) (own_w hw 3 rfl) (own_w hw 24 rfl) (by decide) rfl 0 (by decide) (by decide) (by decide) (by decide) (argsL := [(.int ((p4 &&& (255 : Int32)).toUInt32.toUInt16.toUInt32.toInt32))]) (rest := []) (lenOf pd__C_Ljava_lang_String_ rfl) rfl (rmVO l Z a0 hw ((p4 &&& (255 : Int32)).toUInt32.toUInt16.toUInt32.toInt32) cs n0 T139.heap (own_chr1 p4) hcs Z139 S140_COMPACT_STRINGS) (Nat.le_of_eq rfl) at_145 (pc' := 148) rfl ?_
        intro v142 T142 L142 X142 hQ142
        obtain ⟨ri142, rfl, Nq142, K142, sr142⟩ := hQ142
        have S143_COMPACT_STRINGS := own_stakeep S140_COMPACT_STRINGS K142 all0
        have V144_b128 := V141_b128.keep K142 nin0
        have E145_b136 := E139.keep K142
        have F146_value := FV139.keep K142 nin0
        have F147_coder := FC139.keep K142 nin0
        have V148_bb139 := V139.keep K142 nin0
        have N142 := Fr.app N139 Nq142
        have O142 := O139.keep K142 all0
        have Z142 : n0 ≤ T142.heap.size := Nat.le_trans Z139 K142.1
        replace hk := Nat.le_trans hk K142.1
        show GoP p e below Φ (T142.setTop (mkF m 148 #[.val (.int p1), .val (.int p2), .val (.int p3), .val (.int p4), .val (.int (0 : Int32)), .val (.int (0 : Int32)), .val (.int (0 : Int32)), .val (.int (2 : Int32)), .val (.ref b128), .val (.ref b136), .unset, .unset, .unset] [(.ref ri142)]))
        refine own_astore X142 hx hby at_148 rfl (Ls' := #[.val (.int p1), .val (.int p2), .val (.int p3), .val (.int p4), .val (.int (0 : Int32)), .val (.int (0 : Int32)), .val (.int (0 : Int32)), .val (.int (2 : Int32)), .val (.ref b128), .val (.ref b136), .val (.ref ri142), .unset, .unset]) rfl (pc' := 150) rfl ?_
        obtain ⟨T149, h149, X149, e149, E149, A149, D149, -, st149⟩ := newO X142 hx hZ hown (own_w hw 37 rfl) (own_w hw 38 rfl) (own_w hw 39 rfl) rfl (g := (mkF m 150 #[.val (.int p1), .val (.int p2), .val (.int p3), .val (.int p4), .val (.int (0 : Int32)), .val (.int (0 : Int32)), .val (.int (0 : Int32)), .val (.int (2 : Int32)), .val (.ref b128), .val (.ref b136), .val (.ref ri142), .unset, .unset] [])) rfl (hb hby at_150) (by decide) (by decide)
        obtain ⟨b149, g149⟩ : ∃ z, z = T142.heap.size := ⟨_, rfl⟩
        have ne_b128_b149 : b128 ≠ b149 := Nat.ne_of_lt (g149 ▸ V144_b128.lt)
        have ne_b136_b149 : b136 ≠ b149 := Nat.ne_of_lt (g149 ▸ E145_b136.lt)
        have ne_bb139_b149 : bb139 ≠ b149 := Nat.ne_of_lt (g149 ▸ V148_bb139.lt)
        have S150_COMPACT_STRINGS := S143_COMPACT_STRINGS.ext E149
        have V151_b128 := V144_b128.ext E149
        have E152_b136 := E145_b136.ext E149
        have F153_value := F146_value.ext E149
        have F154_coder := F147_coder.ext E149
        have V155_bb139 := V148_bb139.ext E149
        replace hk := Nat.le_trans hk E149.1
        have Z149 : n0 ≤ h149.size := Nat.le_trans Z142 E149.1
        have n0_b149 : n0 ≤ b149 := g149 ▸ Z142
        have O149 := O142.ext E149
        rw [← g149] at A149 D149 st149
        refine own_step st149 ?_
        have F149_id : Fld Z h149 b149 "com/example/tracemass/tracemass/nets/PetriNet$TransitionNode" "id" "Ljava/lang/String;" .null := D149 (Or.inr (own_w hw 50 rfl)) (ty := (.object "java/lang/String")) (by decide)
        have F149_name : Fld Z h149 b149 "com/example/tracemass/tracemass/nets/PetriNet$TransitionNode" "name" "Ljava/lang/String;" .null := D149 (Or.inr (own_w hw 52 rfl)) (ty := (.object "java/lang/String")) (by decide)
        have F149_silent : Fld Z h149 b149 "com/example/tracemass/tracemass/nets/PetriNet$TransitionNode" "silent" "Z" (.int (0 : Int32)) := D149 (Or.inr (own_w hw 54 rfl)) (ty := .boolean) (by decide)
        show GoP p e below Φ (T149.setTop (mkF m 153 #[.val (.int p1), .val (.int p2), .val (.int p3), .val (.int p4), .val (.int (0 : Int32)), .val (.int (0 : Int32)), .val (.int (0 : Int32)), .val (.int (2 : Int32)), .val (.ref b128), .val (.ref b136), .val (.ref ri142), .unset, .unset] [(.ref b149)]))
        refine own_dup X149 hx hby at_153 rfl (pc' := 154) rfl ?_
        refine own_aload X149 hx hby at_154 rfl rfl (pc' := 156) rfl ?_
        refine own_aload X149 hx hby at_156 rfl rfl (pc' := 158) rfl ?_
        refine own_iload X149 hx hby at_158 rfl (pc' := 160) rfl ?_
        refine own_callI X149 hx hby hZ (by exact hml) hown rfl (own_w hw 40 rfl) (own_w hw 41 rfl) (own_w hw 39 rfl) (own_w hw 42 rfl) (by decide) e149 1 (by decide) (by decide) (by decide) (by decide) (argsL := [(.ref ri142), (.ref b136), (.int (0 : Int32))]) (rest := [(.ref b149)]) (lenOf pd__Ljava_lang_String_Ljava_lang_String_Z_V rfl) rfl (Nat.le_of_eq rfl) (rmT_0RR l Z a0 hw b149 ri142 b136 n0 h149 n0_b149 A149 F149_id F149_name F149_silent) at_160 (pc' := 163) rfl ?_
        intro v156 T156 L156 X156 hQ156
        obtain ⟨rfl, Nq156, K156, E156, FN156, FS156⟩ := hQ156
        have S157_COMPACT_STRINGS := own_stakeep S150_COMPACT_STRINGS K156 (allS (own_plainE A149) all0)
        have V158_b128 := V151_b128.keep K156 (ninS ne_b128_b149 nin0)
        have E159_b136 := E152_b136.keep K156
        have F160_value := F153_value.keep K156 (ninS ne_b136_b149 nin0)
        have F161_coder := F154_coder.keep K156 (ninS ne_b136_b149 nin0)
        have V162_bb139 := V155_bb139.keep K156 (ninS ne_bb139_b149 nin0)
        have N156 := Fr.app N142 Nq156
        have O156 := O149.keep K156 (allS n0_b149 all0)
        have Z156 : n0 ≤ T156.heap.size := Nat.le_trans Z149 K156.1
        replace hk := Nat.le_trans hk K156.1
        show GoP p e below Φ (T156.setTop (mkF m 163 #[.val (.int p1), .val (.int p2), .val (.int p3), .val (.int p4), .val (.int (0 : Int32)), .val (.int (0 : Int32)), .val (.int (0 : Int32)), .val (.int (2 : Int32)), .val (.ref b128), .val (.ref b136), .val (.ref ri142), .unset, .unset] [(.ref b149)]))
        refine own_astore X156 hx hby at_163 rfl (Ls' := #[.val (.int p1), .val (.int p2), .val (.int p3), .val (.int p4), .val (.int (0 : Int32)), .val (.int (0 : Int32)), .val (.int (0 : Int32)), .val (.int (2 : Int32)), .val (.ref b128), .val (.ref b136), .val (.ref ri142), .val (.ref b149), .unset]) rfl (pc' := 165) rfl ?_
        refine own_aload X156 hx hby at_165 rfl rfl (pc' := 167) rfl ?_
        refine own_callV X156 hx hby hZ (by exact hml) hown (own_w hw 55 rfl) (own_w hw 56 rfl) (own_w hw 58 rfl) (own_w hw 57 rfl) (own_w hw 39 rfl) (own_w hw 59 rfl) (by decide) rfl 0 (by decide) (by decide) (by decide) (by decide) (argsL := []) (rest := []) (lenOf pd___Ljava_lang_String_ rfl) rfl (Nat.le_of_eq rfl) E156 (rmL0 l Z a0 hw b149 b136 T156.heap FS156 FN156) at_167 (pc' := 170) rfl ?_
        intro v164 T164 L164 X164 hQ164
        obtain ⟨rfl, rfl, e164⟩ := hQ164
        rw [List.append_nil] at X164
        replace e164 : T164.heap = T156.heap := e164
        show GoP p e below Φ (T164.setTop (mkF m 170 #[.val (.int p1), .val (.int p2), .val (.int p3), .val (.int p4), .val (.int (0 : Int32)), .val (.int (0 : Int32)), .val (.int (0 : Int32)), .val (.int (2 : Int32)), .val (.ref b128), .val (.ref b136), .val (.ref ri142), .val (.ref b149), .unset] [(.ref b136)]))
        refine own_astore X164 hx hby at_170 rfl (Ls' := #[.val (.int p1), .val (.int p2), .val (.int p3), .val (.int p4), .val (.int (0 : Int32)), .val (.int (0 : Int32)), .val (.int (0 : Int32)), .val (.int (2 : Int32)), .val (.ref b128), .val (.ref b136), .val (.ref ri142), .val (.ref b149), .val (.ref b136)]) rfl (pc' := 172) rfl ?_
        refine own_iload X164 hx hby at_172 rfl (pc' := 174) rfl ?_
        refine own_ifY X164 hx hby at_174 ((if0 _ _).trans (teq (by decide)).1) (by decide) (pc' := 188) (by decide) ?_
        refine own_aload X164 hx hby at_188 rfl rfl (pc' := 190) rfl ?_
        refine own_aload X164 hx hby at_190 rfl rfl (pc' := 192) rfl ?_
        refine own_acmp X164 hx hby at_192 rfl rfl (same := true) (decide_eq_true (congrArg Value.ref rfl)) (by decide) (pc' := 195) (by decide) ?_
        refine own_aload X164 hx hby at_195 rfl rfl (pc' := 197) rfl ?_
        refine own_callV X164 hx hby hZ (by exact hml) hown (own_w hw 60 rfl) (own_w hw 61 rfl) (own_w hw 63 rfl) (own_w hw 62 rfl) (own_w hw 3 rfl) (own_w hw 64 rfl) (by decide) e164 0 (by decide) (by decide) (by decide) (by decide) (argsL := []) (rest := []) (lenOf pd___I rfl) rfl (Nat.le_of_eq rfl) E159_b136 (rmLen2 l Z a0 hw b136 bb139 cs (nar .byte (y2.toInt8.toInt32)) (nar .byte (y3.toInt8.toInt32)) T156.heap hcs S157_COMPACT_STRINGS E159_b136 F161_coder F160_value V162_bb139) at_197 (pc' := 200) rfl ?_
        intro v165 T165 L165 X165 hQ165
        obtain ⟨rfl, rfl, e165⟩ := hQ165
        rw [List.append_nil] at X165
        replace e165 : T165.heap = T156.heap := e165
        show GoP p e below Φ (T165.setTop (mkF m 200 #[.val (.int p1), .val (.int p2), .val (.int p3), .val (.int p4), .val (.int (0 : Int32)), .val (.int (0 : Int32)), .val (.int (0 : Int32)), .val (.int (2 : Int32)), .val (.ref b128), .val (.ref b136), .val (.ref ri142), .val (.ref b149), .val (.ref b136)] [(.int (2 : Int32))]))
        refine own_iload X165 hx hby at_200 rfl (pc' := 202) rfl ?_
        refine own_icmpN X165 hx hby at_202 (teq (by decide)).2 (pc' := 205) rfl ?_
        refine own_aload X165 hx hby at_205 rfl rfl (pc' := 207) rfl ?_
        obtain ⟨T166, h166, X166, e166, E166, A166, D166, -, st166⟩ := newO X165 hx hZ hown (own_w hw 1 rfl) (own_w hw 2 rfl) (own_w hw 3 rfl) e165 (g := (mkF m 207 #[.val (.int p1), .val (.int p2), .val (.int p3), .val (.int p4), .val (.int (0 : Int32)), .val (.int (0 : Int32)), .val (.int (0 : Int32)), .val (.int (2 : Int32)), .val (.ref b128), .val (.ref b136), .val (.ref ri142), .val (.ref b149), .val (.ref b136)] [(.ref b136)])) rfl (hb hby at_207) (by decide) (by decide)
        obtain ⟨b166, g166⟩ : ∃ z, z = T156.heap.size := ⟨_, rfl⟩
        have ne_b128_b166 : b128 ≠ b166 := Nat.ne_of_lt (g166 ▸ V158_b128.lt)
        have ne_b136_b166 : b136 ≠ b166 := Nat.ne_of_lt (g166 ▸ E159_b136.lt)
        have ne_bb139_b166 : bb139 ≠ b166 := Nat.ne_of_lt (g166 ▸ V162_bb139.lt)
        have ne_b149_b166 : b149 ≠ b166 := Nat.ne_of_lt (g166 ▸ E156.lt)
        have S167_COMPACT_STRINGS := S157_COMPACT_STRINGS.ext E166
        have V168_b128 := V158_b128.ext E166
        have E169_b136 := E159_b136.ext E166
        have F170_value := F160_value.ext E166
        have F171_coder := F161_coder.ext E166
        have V172_bb139 := V162_bb139.ext E166
        have E173_b149 := E156.ext E166
        have F174_name := FN156.ext E166
        have F175_silent := FS156.ext E166
        replace hk := Nat.le_trans hk E166.1
        have Z166 : n0 ≤ h166.size := Nat.le_trans Z156 E166.1
        have n0_b166 : n0 ≤ b166 := g166 ▸ Z156
        have O166 := O156.ext E166
        rw [← g166] at A166 D166 st166
        refine own_step st166 ?_
        have F166_value : Fld Z h166 b166 "java/lang/String" "value" "[B" .null := D166 (Or.inr (own_w hw 16 rfl)) (ty := (.array .byte)) (by decide)
        have F166_coder : Fld Z h166 b166 "java/lang/String" "coder" "B" (.int (0 : Int32)) := D166 (Or.inr (own_w hw 17 rfl)) (ty := .byte) (by decide)
        show GoP p e below Φ (T166.setTop (mkF m 210 #[.val (.int p1), .val (.int p2), .val (.int p3), .val (.int p4), .val (.int (0 : Int32)), .val (.int (0 : Int32)), .val (.int (0 : Int32)), .val (.int (2 : Int32)), .val (.ref b128), .val (.ref b136), .val (.ref ri142), .val (.ref b149), .val (.ref b136)] [(.ref b166), (.ref b136)]))
        refine own_dup X166 hx hby at_210 rfl (pc' := 211) rfl ?_
        refine own_aload X166 hx hby at_211 rfl rfl (pc' := 213) rfl ?_
        refine own_callI X166 hx hby hZ (by exact hml) hown rfl (own_w hw 4 rfl) (own_w hw 5 rfl) (own_w hw 3 rfl) (own_w hw 6 rfl) (by decide) e166 2 (by decide) (by decide) (by decide) (by decide) (argsL := [(.ref b128)]) (rest := [(.ref b166), (.ref b136)]) (lenOf pd___C_V rfl) rfl (Nat.le_of_eq rfl) (rmI1_2 l Z a0 hw b166 b128 cs y2 y3 n0 h166 hcs hy2 hy3 n0_b166 Z166 (Ne.symm ne_b128_b166) S167_COMPACT_STRINGS A166 F166_coder F166_value V168_b128) at_213 (pc' := 216) rfl ?_
        intro v176 T176 L176 X176 hQ176
        obtain ⟨rfl, Nq176, K176, bb176, sb176, E176, FC176, FV176, V176⟩ := hQ176
        have ne_b128_bb176 : b128 ≠ bb176 := Nat.ne_of_lt (Nat.lt_of_lt_of_le V168_b128.lt sb176)
        have ne_b136_bb176 : b136 ≠ bb176 := Nat.ne_of_lt (Nat.lt_of_lt_of_le E169_b136.lt sb176)
        have ne_bb139_bb176 : bb139 ≠ bb176 := Nat.ne_of_lt (Nat.lt_of_lt_of_le V172_bb139.lt sb176)
        have ne_b149_bb176 : b149 ≠ bb176 := Nat.ne_of_lt (Nat.lt_of_lt_of_le E173_b149.lt sb176)
        have ne_b166_bb176 : b166 ≠ bb176 := Nat.ne_of_lt (Nat.lt_of_lt_of_le A166.lt sb176)
        have S177_COMPACT_STRINGS := own_stakeep S167_COMPACT_STRINGS K176 (allS (own_plainE A166) all0)
        have V178_b128 := V168_b128.keep K176 (ninS ne_b128_b166 nin0)
        have E179_b136 := E169_b136.keep K176
        have F180_value := F170_value.keep K176 (ninS ne_b136_b166 nin0)
        have F181_coder := F171_coder.keep K176 (ninS ne_b136_b166 nin0)
        have V182_bb139 := V172_bb139.keep K176 (ninS ne_bb139_b166 nin0)
        have E183_b149 := E173_b149.keep K176
        have F184_name := F174_name.keep K176 (ninS ne_b149_b166 nin0)
        have F185_silent := F175_silent.keep K176 (ninS ne_b149_b166 nin0)
        have N176 := Fr.app N156 Nq176
        have O176 := O166.keep K176 (allS n0_b166 all0)
        have Z176 : n0 ≤ T176.heap.size := Nat.le_trans Z166 K176.1
        replace hk := Nat.le_trans hk K176.1
        show GoP p e below Φ (T176.setTop (mkF m 216 #[.val (.int p1), .val (.int p2), .val (.int p3), .val (.int p4), .val (.int (0 : Int32)), .val (.int (0 : Int32)), .val (.int (0 : Int32)), .val (.int (2 : Int32)), .val (.ref b128), .val (.ref b136), .val (.ref ri142), .val (.ref b149), .val (.ref b136)] [(.ref b166), (.ref b136)]))
        refine own_callV X176 hx hby hZ (by exact hml) hown (own_w hw 70 rfl) (own_w hw 71 rfl) (own_w hw 73 rfl) (own_w hw 72 rfl) (own_w hw 3 rfl) (own_w hw 74 rfl) (by decide) rfl 0 (by decide) (by decide) (by decide) (by decide) (argsL := [(.ref b166)]) (rest := []) (lenOf pd__Ljava_lang_Object__Z rfl) rfl (Nat.le_of_eq rfl) E179_b136 (rmEq_2 l Z a0 hw b136 b166 bb139 bb176 cs (nar .byte (y2.toInt8.toInt32)) (nar .byte (y3.toInt8.toInt32)) T176.heap hcs ne_b136_b166 S177_COMPACT_STRINGS E179_b136 F181_coder F180_value V182_bb139 E176 FC176 FV176 V176) at_216 (pc' := 219) rfl ?_
        intro v186 T186 L186 X186 hQ186
        obtain ⟨rfl, rfl, e186⟩ := hQ186
        rw [List.append_nil] at X186
        replace e186 : T186.heap = T176.heap := e186
        show GoP p e below Φ (T186.setTop (mkF m 219 #[.val (.int p1), .val (.int p2), .val (.int p3), .val (.int p4), .val (.int (0 : Int32)), .val (.int (0 : Int32)), .val (.int (0 : Int32)), .val (.int (2 : Int32)), .val (.ref b128), .val (.ref b136), .val (.ref ri142), .val (.ref b149), .val (.ref b136)] [(.int (1 : Int32))]))
        refine own_ifN X186 hx hby at_219 ((if0 _ _).trans (feq (by decide)).1) (pc' := 222) rfl ?_
        refine own_iconst X186 hx hby at_222 (v := (1 : Int32)) rfl (pc' := 223) rfl ?_
        refine own_goto X186 hx hby at_223 (by decide) (pc' := 227) (by decide) ?_
        exact own_retN X186 hx hby (fin _ _ hS) hret (by simp) rfl at_227 (by decide) (by decide) ⟨⟨rfl, N176⟩, (by rw [e186]; exact hk)⟩
    · refine own_ifN X hx hby at_34 ((if0 _ _).trans (feq hc34_2).1) (pc' := 37) rfl ?_
      refine own_iconst X hx hby at_37 (v := (1 : Int32)) rfl (pc' := 38) rfl ?_
      refine own_goto X hx hby at_38 (by decide) (pc' := 42) (by decide) ?_
      refine own_istore X hx hby at_42  (Ls' := #[.val (.int p1), .val (.int p2), .val (.int p3), .val (.int p4), .val (.int (0 : Int32)), .val (.int (0 : Int32)), .val (.int (1 : Int32)), .unset, .unset, .unset, .unset, .unset, .unset]) rfl (pc' := 44) rfl ?_
      refine own_iloadN X hx hby at_44 rfl (pc' := 45) rfl ?_
      refine own_iconst X hx hby at_45 (v := (3 : Int32)) rfl (pc' := 46) rfl ?_
      refine own_iushr X hx hby at_46 (pc' := 47) rfl ?_
      refine own_iconst X hx hby at_47 (v := (3 : Int32)) rfl (pc' := 48) rfl ?_
      refine own_irem X hx hby at_48 (by decide) (pc' := 49) rfl ?_
      refine own_istore X hx hby at_49  (Ls' := #[.val (.int p1), .val (.int p2), .val (.int p3), .val (.int p4), .val (.int (0 : Int32)), .val (.int (0 : Int32)), .val (.int (1 : Int32)), .val (.int (((p1.toUInt32 >>> ((3 : Int32) &&& 31).toUInt32).toInt32) % (3 : Int32))), .unset, .unset, .unset, .unset, .unset]) rfl (pc' := 51) rfl ?_
      have hz := own_three p1
      generalize (((p1.toUInt32 >>> ((3 : Int32) &&& 31).toUInt32).toInt32) % (3 : Int32)) = z at hz ⊢
      rcases hz with rfl | rfl | rfl
      · refine own_iload X hx hby at_51 rfl (pc' := 53) rfl ?_
        refine own_ifN X hx hby at_53 ((if0 _ _).trans (teq (by decide)).2) (pc' := 56) rfl ?_
        refine own_iconst X hx hby at_56 (v := (0 : Int32)) rfl (pc' := 57) rfl ?_
        obtain ⟨T187, h187, k187, X187, e187, E187, A187, st187⟩ := newP X hx hZ (own_w hw 0 rfl) eT (g := (mkF m 57 #[.val (.int p1), .val (.int p2), .val (.int p3), .val (.int p4), .val (.int (0 : Int32)), .val (.int (0 : Int32)), .val (.int (1 : Int32)), .val (.int (0 : Int32)), .unset, .unset, .unset, .unset, .unset] [(.int (0 : Int32))])) rfl (hb hby at_57) rfl (by decide) (cap := 0) (by decide) (by decide) (by decide) (by decide)
        obtain ⟨b187, g187⟩ : ∃ z, z = h0.size := ⟨_, rfl⟩
        have S188_COMPACT_STRINGS := Scs.ext E187
        replace hk := Nat.le_trans hk E187.1
        have Z187 : n0 ≤ h187.size := Nat.le_trans Z0 E187.1
        have n0_b187 : n0 ≤ b187 := g187 ▸ Z0
        have O187 := O0.ext E187
        rw [← g187] at A187 st187
        refine own_step st187 ?_
        have V187 : AV Z h187 b187 .char [] := AV.new A187 (by decide)
        show GoP p e below Φ (T187.setTop (mkF m 59 #[.val (.int p1), .val (.int p2), .val (.int p3), .val (.int p4), .val (.int (0 : Int32)), .val (.int (0 : Int32)), .val (.int (1 : Int32)), .val (.int (0 : Int32)), .unset, .unset, .unset, .unset, .unset] [(.ref b187)]))
        refine own_astore X187 hx hby at_59 rfl (Ls' := #[.val (.int p1), .val (.int p2), .val (.int p3), .val (.int p4), .val (.int (0 : Int32)), .val (.int (0 : Int32)), .val (.int (1 : Int32)), .val (.int (0 : Int32)), .val (.ref b187), .unset, .unset, .unset, .unset]) rfl (pc' := 61) rfl ?_
        refine own_goto X187 hx hby at_61 (by decide) (pc' := 110) (by decide) ?_
        refine own_iload X187 hx hby at_110 rfl (pc' := 112) rfl ?_
        refine own_ifY X187 hx hby at_112 ((if0 _ _).trans (teq (by decide)).1) (by decide) (pc' := 119) (by decide) ?_
        obtain ⟨T189, h189, X189, e189, E189, A189, D189, -, st189⟩ := newO X187 hx hZ hown (own_w hw 1 rfl) (own_w hw 2 rfl) (own_w hw 3 rfl) e187 (g := (mkF m 119 #[.val (.int p1), .val (.int p2), .val (.int p3), .val (.int p4), .val (.int (0 : Int32)), .val (.int (0 : Int32)), .val (.int (1 : Int32)), .val (.int (0 : Int32)), .val (.ref b187), .unset, .unset, .unset, .unset] [])) rfl (hb hby at_119) (by decide) (by decide)
        obtain ⟨b189, g189⟩ : ∃ z, z = h187.size := ⟨_, rfl⟩
        have ne_b187_b189 : b187 ≠ b189 := Nat.ne_of_lt (g189 ▸ V187.lt)
        have S190_COMPACT_STRINGS := S188_COMPACT_STRINGS.ext E189
        have V191_b187 := V187.ext E189
        replace hk := Nat.le_trans hk E189.1
        have Z189 : n0 ≤ h189.size := Nat.le_trans Z187 E189.1
        have n0_b189 : n0 ≤ b189 := g189 ▸ Z187
        have O189 := O187.ext E189
        rw [← g189] at A189 D189 st189
        refine own_step st189 ?_
        have F189_value : Fld Z h189 b189 "java/lang/String" "value" "[B" .null := D189 (Or.inr (own_w hw 16 rfl)) (ty := (.array .byte)) (by decide)
        have F189_coder : Fld Z h189 b189 "java/lang/String" "coder" "B" (.int (0 : Int32)) := D189 (Or.inr (own_w hw 17 rfl)) (ty := .byte) (by decide)
        show GoP p e below Φ (T189.setTop (mkF m 122 #[.val (.int p1), .val (.int p2), .val (.int p3), .val (.int p4), .val (.int (0 : Int32)), .val (.int (0 : Int32)), .val (.int (1 : Int32)), .val (.int (0 : Int32)), .val (.ref b187), .unset, .unset, .unset, .unset] [(.ref b189)]))
        refine own_dup X189 hx hby at_122 rfl (pc' := 123) rfl ?_
        refine own_aload X189 hx hby at_123 rfl rfl (pc' := 125) rfl ?_
        refine own_callIX X189 hx hby hZ (by exact hml) hown rfl (own_w hw 4 rfl) (own_w hw 5 rfl) (own_w hw 3 rfl) (own_w hw 6 rfl) (by decide) e189 1 (by decide) (by decide) (by decide) (by decide) (argsL := [(.ref b187)]) (rest := [(.ref b189)]) (lenOf pd___C_V rfl) rfl (Nat.le_of_eq rfl) (rmI1_0 l Z a0 hw b189 b187 n0 h189 n0_b189 Z189 O189.2 hh hcw A189 F189_coder F189_value V191_b187) at_125 (pc' := 128) rfl hS hk own_litS_stays (Or.inl hPv) ?_
        clear hS hk hZ hown
        intro v192 T192 L192 X192 hS hk hZ hown hge192 hQ192
        obtain ⟨rfl, Nq192, K192, ⟨aL192, bL192, LL192, EL192, CL192, VL192, BL192⟩, bb192, E192, FC192, FV192, V192⟩ := hQ192
        have S193_COMPACT_STRINGS := own_stakeep S190_COMPACT_STRINGS K192 (allS (own_plainE A189) all0)
        have V194_b187 := V191_b187.keep K192 (ninS ne_b187_b189 nin0)
        have N192 := Fr.app N0 Nq192
        have O192 := O189.keep K192 (allS n0_b189 all0)
        have Z192 : n0 ≤ T192.heap.size := Nat.le_trans Z189 K192.1
        show GoP p e below Φ (T192.setTop (mkF m 128 #[.val (.int p1), .val (.int p2), .val (.int p3), .val (.int p4), .val (.int (0 : Int32)), .val (.int (0 : Int32)), .val (.int (1 : Int32)), .val (.int (0 : Int32)), .val (.ref b187), .unset, .unset, .unset, .unset] [(.ref b189)]))
        obtain ⟨aL, eaL⟩ : ∃ q, q = aL192 := ⟨_, rfl⟩
        obtain ⟨bL, ebL⟩ : ∃ q, q = bL192 := ⟨_, rfl⟩
        rw [← eaL] at LL192 EL192 CL192 VL192
        rw [← ebL] at VL192 BL192
        have LL := LL192
        refine own_astore X192 hx hby at_128 rfl (Ls' := #[.val (.int p1), .val (.int p2), .val (.int p3), .val (.int p4), .val (.int (0 : Int32)), .val (.int (0 : Int32)), .val (.int (1 : Int32)), .val (.int (0 : Int32)), .val (.ref b187), .val (.ref b189), .unset, .unset, .unset]) rfl (pc' := 130) rfl ?_
        refine own_iload X192 hx hby at_130 rfl (pc' := 132) rfl ?_
        refine own_ifN X192 hx hby at_132 ((if0 _ _).trans (feq (by decide)).1) (pc' := 135) rfl ?_
        refine own_aconst_null X192 hx hby at_135 (pc' := 136) rfl ?_
        refine own_goto X192 hx hby at_136 (by decide) (pc' := 148) (by decide) ?_
        refine own_astore X192 hx hby at_148 rfl (Ls' := #[.val (.int p1), .val (.int p2), .val (.int p3), .val (.int p4), .val (.int (0 : Int32)), .val (.int (0 : Int32)), .val (.int (1 : Int32)), .val (.int (0 : Int32)), .val (.ref b187), .val (.ref b189), .val .null, .unset, .unset]) rfl (pc' := 150) rfl ?_
        obtain ⟨T195, h195, X195, e195, E195, A195, D195, -, st195⟩ := newO X192 hx hZ hown (own_w hw 37 rfl) (own_w hw 38 rfl) (own_w hw 39 rfl) rfl (g := (mkF m 150 #[.val (.int p1), .val (.int p2), .val (.int p3), .val (.int p4), .val (.int (0 : Int32)), .val (.int (0 : Int32)), .val (.int (1 : Int32)), .val (.int (0 : Int32)), .val (.ref b187), .val (.ref b189), .val .null, .unset, .unset] [])) rfl (hb hby at_150) (by decide) (by decide)
        obtain ⟨b195, g195⟩ : ∃ z, z = T192.heap.size := ⟨_, rfl⟩
        have ne_b187_b195 : b187 ≠ b195 := Nat.ne_of_lt (g195 ▸ V194_b187.lt)
        have ne_b189_b195 : b189 ≠ b195 := Nat.ne_of_lt (g195 ▸ E192.lt)
        have ne_bb192_b195 : bb192 ≠ b195 := Nat.ne_of_lt (g195 ▸ V192.lt)
        have ne_aL_b195 : aL ≠ b195 := Nat.ne_of_lt (g195 ▸ EL192.lt)
        have ne_bL_b195 : bL ≠ b195 := Nat.ne_of_lt (g195 ▸ BL192.lt)
        have S196_COMPACT_STRINGS := S193_COMPACT_STRINGS.ext E195
        have V197_b187 := V194_b187.ext E195
        have E198_b189 := E192.ext E195
        have F199_value := FV192.ext E195
        have F200_coder := FC192.ext E195
        have V201_bb192 := V192.ext E195
        have E202_aL := EL192.ext E195
        have F203_coder := CL192.ext E195
        have F204_value := VL192.ext E195
        have V205_bL := BL192.ext E195
        replace hk := Nat.le_trans hk E195.1
        have Z195 : n0 ≤ h195.size := Nat.le_trans Z192 E195.1
        have n0_b195 : n0 ≤ b195 := g195 ▸ Z192
        have O195 := O192.ext E195
        rw [← g195] at A195 D195 st195
        refine own_step st195 ?_
        have F195_id : Fld Z h195 b195 "com/example/tracemass/tracemass/nets/PetriNet$TransitionNode" "id" "Ljava/lang/String;" .null := D195 (Or.inr (own_w hw 50 rfl)) (ty := (.object "java/lang/String")) (by decide)
        have F195_name : Fld Z h195 b195 "com/example/tracemass/tracemass/nets/PetriNet$TransitionNode" "name" "Ljava/lang/String;" .null := D195 (Or.inr (own_w hw 52 rfl)) (ty := (.object "java/lang/String")) (by decide)
        have F195_silent : Fld Z h195 b195 "com/example/tracemass/tracemass/nets/PetriNet$TransitionNode" "silent" "Z" (.int (0 : Int32)) := D195 (Or.inr (own_w hw 54 rfl)) (ty := .boolean) (by decide)
        show GoP p e below Φ (T195.setTop (mkF m 153 #[.val (.int p1), .val (.int p2), .val (.int p3), .val (.int p4), .val (.int (0 : Int32)), .val (.int (0 : Int32)), .val (.int (1 : Int32)), .val (.int (0 : Int32)), .val (.ref b187), .val (.ref b189), .val .null, .unset, .unset] [(.ref b195)]))
        refine own_dup X195 hx hby at_153 rfl (pc' := 154) rfl ?_
        refine own_aload X195 hx hby at_154 rfl rfl (pc' := 156) rfl ?_
        refine own_aload X195 hx hby at_156 rfl rfl (pc' := 158) rfl ?_
        refine own_iload X195 hx hby at_158 rfl (pc' := 160) rfl ?_
        refine own_callI X195 hx hby hZ (by exact hml) hown rfl (own_w hw 40 rfl) (own_w hw 41 rfl) (own_w hw 39 rfl) (own_w hw 42 rfl) (by decide) e195 1 (by decide) (by decide) (by decide) (by decide) (argsL := [.null, (.ref b189), (.int (0 : Int32))]) (rest := [(.ref b195)]) (lenOf pd__Ljava_lang_String_Ljava_lang_String_Z_V rfl) rfl (Nat.le_of_eq rfl) (rmT_0NR l Z a0 hw b195  b189 n0 h195 n0_b195 A195 F195_id F195_name F195_silent) at_160 (pc' := 163) rfl ?_
        intro v206 T206 L206 X206 hQ206
        obtain ⟨rfl, Nq206, K206, E206, FN206, FS206⟩ := hQ206
        have S207_COMPACT_STRINGS := own_stakeep S196_COMPACT_STRINGS K206 (allS (own_plainE A195) all0)
        have V208_b187 := V197_b187.keep K206 (ninS ne_b187_b195 nin0)
        have E209_b189 := E198_b189.keep K206
        have F210_value := F199_value.keep K206 (ninS ne_b189_b195 nin0)
        have F211_coder := F200_coder.keep K206 (ninS ne_b189_b195 nin0)
        have V212_bb192 := V201_bb192.keep K206 (ninS ne_bb192_b195 nin0)
        have E213_aL := E202_aL.keep K206
        have F214_coder := F203_coder.keep K206 (ninS ne_aL_b195 nin0)
        have F215_value := F204_value.keep K206 (ninS ne_aL_b195 nin0)
        have V216_bL := V205_bL.keep K206 (ninS ne_bL_b195 nin0)
        have N206 := Fr.app N192 Nq206
        have O206 := O195.keep K206 (allS n0_b195 all0)
        have Z206 : n0 ≤ T206.heap.size := Nat.le_trans Z195 K206.1
        replace hk := Nat.le_trans hk K206.1
        show GoP p e below Φ (T206.setTop (mkF m 163 #[.val (.int p1), .val (.int p2), .val (.int p3), .val (.int p4), .val (.int (0 : Int32)), .val (.int (0 : Int32)), .val (.int (1 : Int32)), .val (.int (0 : Int32)), .val (.ref b187), .val (.ref b189), .val .null, .unset, .unset] [(.ref b195)]))
        refine own_astore X206 hx hby at_163 rfl (Ls' := #[.val (.int p1), .val (.int p2), .val (.int p3), .val (.int p4), .val (.int (0 : Int32)), .val (.int (0 : Int32)), .val (.int (1 : Int32)), .val (.int (0 : Int32)), .val (.ref b187), .val (.ref b189), .val .null, .val (.ref b195), .unset]) rfl (pc' := 165) rfl ?_
        refine own_aload X206 hx hby at_165 rfl rfl (pc' := 167) rfl ?_
        refine own_callV X206 hx hby hZ (by exact hml) hown (own_w hw 55 rfl) (own_w hw 56 rfl) (own_w hw 58 rfl) (own_w hw 57 rfl) (own_w hw 39 rfl) (own_w hw 59 rfl) (by decide) rfl 0 (by decide) (by decide) (by decide) (by decide) (argsL := []) (rest := []) (lenOf pd___Ljava_lang_String_ rfl) rfl (Nat.le_of_eq rfl) E206 (rmL0 l Z a0 hw b195 b189 T206.heap FS206 FN206) at_167 (pc' := 170) rfl ?_
        intro v218 T218 L218 X218 hQ218
        obtain ⟨rfl, rfl, e218⟩ := hQ218
        rw [List.append_nil] at X218
        replace e218 : T218.heap = T206.heap := e218
        show GoP p e below Φ (T218.setTop (mkF m 170 #[.val (.int p1), .val (.int p2), .val (.int p3), .val (.int p4), .val (.int (0 : Int32)), .val (.int (0 : Int32)), .val (.int (1 : Int32)), .val (.int (0 : Int32)), .val (.ref b187), .val (.ref b189), .val .null, .val (.ref b195), .unset] [(.ref b189)]))
        refine own_astore X218 hx hby at_170 rfl (Ls' := #[.val (.int p1), .val (.int p2), .val (.int p3), .val (.int p4), .val (.int (0 : Int32)), .val (.int (0 : Int32)), .val (.int (1 : Int32)), .val (.int (0 : Int32)), .val (.ref b187), .val (.ref b189), .val .null, .val (.ref b195), .val (.ref b189)]) rfl (pc' := 172) rfl ?_
        refine own_iload X218 hx hby at_172 rfl (pc' := 174) rfl ?_
        refine own_ifY X218 hx hby at_174 ((if0 _ _).trans (teq (by decide)).1) (by decide) (pc' := 188) (by decide) ?_
        refine own_aload X218 hx hby at_188 rfl rfl (pc' := 190) rfl ?_
        refine own_aload X218 hx hby at_190 rfl rfl (pc' := 192) rfl ?_
        refine own_acmp X218 hx hby at_192 rfl rfl (same := true) (decide_eq_true (congrArg Value.ref rfl)) (by decide) (pc' := 195) (by decide) ?_
        refine own_aload X218 hx hby at_195 rfl rfl (pc' := 197) rfl ?_
        refine own_callV X218 hx hby hZ (by exact hml) hown (own_w hw 60 rfl) (own_w hw 61 rfl) (own_w hw 63 rfl) (own_w hw 62 rfl) (own_w hw 3 rfl) (own_w hw 64 rfl) (by decide) e218 0 (by decide) (by decide) (by decide) (by decide) (argsL := []) (rest := []) (lenOf pd___I rfl) rfl (Nat.le_of_eq rfl) E209_b189 (rmLen0 l Z a0 hw b189 bb192 cs  T206.heap hcs S207_COMPACT_STRINGS E209_b189 F211_coder F210_value V212_bb192) at_197 (pc' := 200) rfl ?_
        intro v219 T219 L219 X219 hQ219
        obtain ⟨rfl, rfl, e219⟩ := hQ219
        rw [List.append_nil] at X219
        replace e219 : T219.heap = T206.heap := e219
        show GoP p e below Φ (T219.setTop (mkF m 200 #[.val (.int p1), .val (.int p2), .val (.int p3), .val (.int p4), .val (.int (0 : Int32)), .val (.int (0 : Int32)), .val (.int (1 : Int32)), .val (.int (0 : Int32)), .val (.ref b187), .val (.ref b189), .val .null, .val (.ref b195), .val (.ref b189)] [(.int (0 : Int32))]))
        refine own_iload X219 hx hby at_200 rfl (pc' := 202) rfl ?_
        refine own_icmpN X219 hx hby at_202 (teq (by decide)).2 (pc' := 205) rfl ?_
        refine own_aload X219 hx hby at_205 rfl rfl (pc' := 207) rfl ?_
        obtain ⟨T220, h220, X220, e220, E220, A220, D220, -, st220⟩ := newO X219 hx hZ hown (own_w hw 1 rfl) (own_w hw 2 rfl) (own_w hw 3 rfl) e219 (g := (mkF m 207 #[.val (.int p1), .val (.int p2), .val (.int p3), .val (.int p4), .val (.int (0 : Int32)), .val (.int (0 : Int32)), .val (.int (1 : Int32)), .val (.int (0 : Int32)), .val (.ref b187), .val (.ref b189), .val .null, .val (.ref b195), .val (.ref b189)] [(.ref b189)])) rfl (hb hby at_207) (by decide) (by decide)
        obtain ⟨b220, g220⟩ : ∃ z, z = T206.heap.size := ⟨_, rfl⟩
        have ne_b187_b220 : b187 ≠ b220 := Nat.ne_of_lt (g220 ▸ V208_b187.lt)
        have ne_b189_b220 : b189 ≠ b220 := Nat.ne_of_lt (g220 ▸ E209_b189.lt)
        have ne_bb192_b220 : bb192 ≠ b220 := Nat.ne_of_lt (g220 ▸ V212_bb192.lt)
        have ne_aL_b220 : aL ≠ b220 := Nat.ne_of_lt (g220 ▸ E213_aL.lt)
        have ne_bL_b220 : bL ≠ b220 := Nat.ne_of_lt (g220 ▸ V216_bL.lt)
        have ne_b195_b220 : b195 ≠ b220 := Nat.ne_of_lt (g220 ▸ E206.lt)
        have S221_COMPACT_STRINGS := S207_COMPACT_STRINGS.ext E220
        have V222_b187 := V208_b187.ext E220
        have E223_b189 := E209_b189.ext E220
        have F224_value := F210_value.ext E220
        have F225_coder := F211_coder.ext E220
        have V226_bb192 := V212_bb192.ext E220
        have E227_aL := E213_aL.ext E220
        have F228_coder := F214_coder.ext E220
        have F229_value := F215_value.ext E220
        have V230_bL := V216_bL.ext E220
        have E231_b195 := E206.ext E220
        have F232_name := FN206.ext E220
        have F233_silent := FS206.ext E220
        replace hk := Nat.le_trans hk E220.1
        have Z220 : n0 ≤ h220.size := Nat.le_trans Z206 E220.1
        have n0_b220 : n0 ≤ b220 := g220 ▸ Z206
        have O220 := O206.ext E220
        rw [← g220] at A220 D220 st220
        refine own_step st220 ?_
        have F220_value : Fld Z h220 b220 "java/lang/String" "value" "[B" .null := D220 (Or.inr (own_w hw 16 rfl)) (ty := (.array .byte)) (by decide)
        have F220_coder : Fld Z h220 b220 "java/lang/String" "coder" "B" (.int (0 : Int32)) := D220 (Or.inr (own_w hw 17 rfl)) (ty := .byte) (by decide)
        show GoP p e below Φ (T220.setTop (mkF m 210 #[.val (.int p1), .val (.int p2), .val (.int p3), .val (.int p4), .val (.int (0 : Int32)), .val (.int (0 : Int32)), .val (.int (1 : Int32)), .val (.int (0 : Int32)), .val (.ref b187), .val (.ref b189), .val .null, .val (.ref b195), .val (.ref b189)] [(.ref b220), (.ref b189)]))
        refine own_dup X220 hx hby at_210 rfl (pc' := 211) rfl ?_
        refine own_aload X220 hx hby at_211 rfl rfl (pc' := 213) rfl ?_
        refine own_callIX X220 hx hby hZ (by exact hml) hown rfl (own_w hw 4 rfl) (own_w hw 5 rfl) (own_w hw 3 rfl) (own_w hw 6 rfl) (by decide) e220 2 (by decide) (by decide) (by decide) (by decide) (argsL := [(.ref b187)]) (rest := [(.ref b220), (.ref b189)]) (lenOf pd___C_V rfl) rfl (Nat.le_of_eq rfl) (rmI1_0 l Z a0 hw b220 b187 n0 h220 n0_b220 Z220 O220.2 hh hcw A220 F220_coder F220_value V222_b187) at_213 (pc' := 216) rfl hS hk own_litS_stays (Or.inr ⟨aL, bL, LL, E227_aL, F228_coder, F229_value, V230_bL⟩) ?_
        clear hS hk hZ hown
        intro v234 T234 L234 X234 hS hk hZ hown hge234 hQ234
        obtain ⟨rfl, Nq234, K234, ⟨aL234, bL234, LL234, EL234, CL234, VL234, BL234⟩, bb234, E234, FC234, FV234, V234⟩ := hQ234
        have S235_COMPACT_STRINGS := own_stakeep S221_COMPACT_STRINGS K234 (allS (own_plainE A220) all0)
        have V236_b187 := V222_b187.keep K234 (ninS ne_b187_b220 nin0)
        have E237_b189 := E223_b189.keep K234
        have F238_value := F224_value.keep K234 (ninS ne_b189_b220 nin0)
        have F239_coder := F225_coder.keep K234 (ninS ne_b189_b220 nin0)
        have V240_bb192 := V226_bb192.keep K234 (ninS ne_bb192_b220 nin0)
        have E241_b195 := E231_b195.keep K234
        have F242_name := F232_name.keep K234 (ninS ne_b195_b220 nin0)
        have F243_silent := F233_silent.keep K234 (ninS ne_b195_b220 nin0)
        have N234 := Fr.app N206 Nq234
        have O234 := O220.keep K234 (allS n0_b220 all0)
        have Z234 : n0 ≤ T234.heap.size := Nat.le_trans Z220 K234.1
        show GoP p e below Φ (T234.setTop (mkF m 216 #[.val (.int p1), .val (.int p2), .val (.int p3), .val (.int p4), .val (.int (0 : Int32)), .val (.int (0 : Int32)), .val (.int (1 : Int32)), .val (.int (0 : Int32)), .val (.ref b187), .val (.ref b189), .val .null, .val (.ref b195), .val (.ref b189)] [(.ref b220), (.ref b189)]))
        refine own_callV X234 hx hby hZ (by exact hml) hown (own_w hw 70 rfl) (own_w hw 71 rfl) (own_w hw 73 rfl) (own_w hw 72 rfl) (own_w hw 3 rfl) (own_w hw 74 rfl) (by decide) rfl 0 (by decide) (by decide) (by decide) (by decide) (argsL := [(.ref b220)]) (rest := []) (lenOf pd__Ljava_lang_Object__Z rfl) rfl (Nat.le_of_eq rfl) E237_b189 (rmEq_0 l Z a0 hw b189 b220 bb192 bb234 cs  T234.heap hcs ne_b189_b220 S235_COMPACT_STRINGS E237_b189 F239_coder F238_value V240_bb192 E234 FC234 FV234 V234) at_216 (pc' := 219) rfl ?_
        intro v244 T244 L244 X244 hQ244
        obtain ⟨rfl, rfl, e244⟩ := hQ244
        rw [List.append_nil] at X244
        replace e244 : T244.heap = T234.heap := e244
        show GoP p e below Φ (T244.setTop (mkF m 219 #[.val (.int p1), .val (.int p2), .val (.int p3), .val (.int p4), .val (.int (0 : Int32)), .val (.int (0 : Int32)), .val (.int (1 : Int32)), .val (.int (0 : Int32)), .val (.ref b187), .val (.ref b189), .val .null, .val (.ref b195), .val (.ref b189)] [(.int (1 : Int32))]))
        refine own_ifN X244 hx hby at_219 ((if0 _ _).trans (feq (by decide)).1) (pc' := 222) rfl ?_
        refine own_iconst X244 hx hby at_222 (v := (1 : Int32)) rfl (pc' := 223) rfl ?_
        refine own_goto X244 hx hby at_223 (by decide) (pc' := 227) (by decide) ?_
        exact own_retN X244 hx hby (fin _ _ hS) hret (by simp) rfl at_227 (by decide) (by decide) ⟨⟨rfl, N234⟩, (by rw [e244]; exact hk)⟩
      · refine own_iload X hx hby at_51 rfl (pc' := 53) rfl ?_
        refine own_ifY X hx hby at_53 ((if0 _ _).trans (feq (by decide)).2) (by decide) (pc' := 64) (by decide) ?_
        refine own_iload X hx hby at_64 rfl (pc' := 66) rfl ?_
        refine own_iconst X hx hby at_66 (v := (1 : Int32)) rfl (pc' := 67) rfl ?_
        refine own_icmpN X hx hby at_67 (teq (by decide)).2 (pc' := 70) rfl ?_
        refine own_iconst X hx hby at_70 (v := (1 : Int32)) rfl (pc' := 71) rfl ?_
        obtain ⟨T245, h245, k245, X245, e245, E245, A245, st245⟩ := newP X hx hZ (own_w hw 0 rfl) eT (g := (mkF m 71 #[.val (.int p1), .val (.int p2), .val (.int p3), .val (.int p4), .val (.int (0 : Int32)), .val (.int (0 : Int32)), .val (.int (1 : Int32)), .val (.int (1 : Int32)), .unset, .unset, .unset, .unset, .unset] [(.int (1 : Int32))])) rfl (hb hby at_71) rfl (by decide) (cap := 1) (by decide) (by decide) (by decide) (by decide)
        obtain ⟨b245, g245⟩ : ∃ z, z = h0.size := ⟨_, rfl⟩
        have S246_COMPACT_STRINGS := Scs.ext E245
        replace hk := Nat.le_trans hk E245.1
        have Z245 : n0 ≤ h245.size := Nat.le_trans Z0 E245.1
        have n0_b245 : n0 ≤ b245 := g245 ▸ Z0
        have O245 := O0.ext E245
        rw [← g245] at A245 st245
        refine own_step st245 ?_
        have V245 : AV Z h245 b245 .char [(.int (0 : Int32))] := AV.new A245 (by decide)
        show GoP p e below Φ (T245.setTop (mkF m 73 #[.val (.int p1), .val (.int p2), .val (.int p3), .val (.int p4), .val (.int (0 : Int32)), .val (.int (0 : Int32)), .val (.int (1 : Int32)), .val (.int (1 : Int32)), .unset, .unset, .unset, .unset, .unset] [(.ref b245)]))
        refine own_dup X245 hx hby at_73 rfl (pc' := 74) rfl ?_
        refine own_iconst X245 hx hby at_74 (v := (0 : Int32)) rfl (pc' := 75) rfl ?_
        refine own_iloadN X245 hx hby at_75 rfl (pc' := 76) rfl ?_
        refine own_sipush X245 hx hby at_76 (v := (255 : Int32)) rfl (pc' := 79) rfl ?_
        refine own_iand X245 hx hby at_79 (pc' := 80) rfl ?_
        refine own_i2c X245 hx hby at_80 (pc' := 81) rfl ?_
        obtain ⟨y2, ey2, hy2⟩ : ∃ x : Int32, x = (nar .char ((p2 &&& (255 : Int32)).toUInt32.toUInt16.toUInt32.toInt32)) ∧ ¬ (255 : Int32) < x := ⟨_, rfl, own_chr p2⟩
        refine own_castore X245 hx hby hZ e245 V245 (by decide) (Nat.le_of_ble_eq_true rfl) at_81 (pc' := 82) rfl ?_
        intro T247 h247 X247 e247 W247 V247
        replace V247 : AV Z h247 b245 .char [(.int (nar .char ((p2 &&& (255 : Int32)).toUInt32.toUInt16.toUInt32.toInt32)))] := V247
        have S248_COMPACT_STRINGS := S246_COMPACT_STRINGS.wr W247
        replace hk := W247.size.symm ▸ hk
        have Z247 : n0 ≤ h247.size := by rw [W247.size]; exact Z245
        have O247 := O245.wr W247 n0_b245
        have N247 := Fr.snoc X247 N0 n0_b245
        rw [← ey2] at V247
        refine own_astore X247 hx hby at_82 rfl (Ls' := #[.val (.int p1), .val (.int p2), .val (.int p3), .val (.int p4), .val (.int (0 : Int32)), .val (.int (0 : Int32)), .val (.int (1 : Int32)), .val (.int (1 : Int32)), .val (.ref b245), .unset, .unset, .unset, .unset]) rfl (pc' := 84) rfl ?_
        refine own_goto X247 hx hby at_84 (by decide) (pc' := 110) (by decide) ?_
        refine own_iload X247 hx hby at_110 rfl (pc' := 112) rfl ?_
        refine own_ifY X247 hx hby at_112 ((if0 _ _).trans (teq (by decide)).1) (by decide) (pc' := 119) (by decide) ?_
        obtain ⟨T250, h250, X250, e250, E250, A250, D250, -, st250⟩ := newO X247 hx hZ hown (own_w hw 1 rfl) (own_w hw 2 rfl) (own_w hw 3 rfl) e247 (g := (mkF m 119 #[.val (.int p1), .val (.int p2), .val (.int p3), .val (.int p4), .val (.int (0 : Int32)), .val (.int (0 : Int32)), .val (.int (1 : Int32)), .val (.int (1 : Int32)), .val (.ref b245), .unset, .unset, .unset, .unset] [])) rfl (hb hby at_119) (by decide) (by decide)
        obtain ⟨b250, g250⟩ : ∃ z, z = h247.size := ⟨_, rfl⟩
        have ne_b245_b250 : b245 ≠ b250 := Nat.ne_of_lt (g250 ▸ V247.lt)
        have S251_COMPACT_STRINGS := S248_COMPACT_STRINGS.ext E250
        have V252_b245 := V247.ext E250
        replace hk := Nat.le_trans hk E250.1
        have Z250 : n0 ≤ h250.size := Nat.le_trans Z247 E250.1
        have n0_b250 : n0 ≤ b250 := g250 ▸ Z247
        have O250 := O247.ext E250
        rw [← g250] at A250 D250 st250
        refine own_step st250 ?_
        have F250_value : Fld Z h250 b250 "java/lang/String" "value" "[B" .null := D250 (Or.inr (own_w hw 16 rfl)) (ty := (.array .byte)) (by decide)
        have F250_coder : Fld Z h250 b250 "java/lang/String" "coder" "B" (.int (0 : Int32)) := D250 (Or.inr (own_w hw 17 rfl)) (ty := .byte) (by decide)
        show GoP p e below Φ (T250.setTop (mkF m 122 #[.val (.int p1), .val (.int p2), .val (.int p3), .val (.int p4), .val (.int (0 : Int32)), .val (.int (0 : Int32)), .val (.int (1 : Int32)), .val (.int (1 : Int32)), .val (.ref b245), .unset, .unset, .unset, .unset] [(.ref b250)]))
        refine own_dup X250 hx hby at_122 rfl (pc' := 123) rfl ?_
        refine own_aload X250 hx hby at_123 rfl rfl (pc' := 125) rfl ?_
        refine own_callI X250 hx hby hZ (by exact hml) hown rfl (own_w hw 4 rfl) (own_w hw 5 rfl) (own_w hw 3 rfl) (own_w hw 6 rfl) (by decide) e250 1 (by decide) (by decide) (by decide) (by decide) (argsL := [(.ref b245)]) (rest := [(.ref b250)]) (lenOf pd___C_V rfl) rfl (Nat.le_of_eq rfl) (rmI1_1 l Z a0 hw b250 b245 cs y2 n0 h250 hcs hy2 n0_b250 Z250 (Ne.symm ne_b245_b250) S251_COMPACT_STRINGS A250 F250_coder F250_value V252_b245) at_125 (pc' := 128) rfl ?_
        intro v253 T253 L253 X253 hQ253
        obtain ⟨rfl, Nq253, K253, bb253, sb253, E253, FC253, FV253, V253⟩ := hQ253
        have ne_b245_bb253 : b245 ≠ bb253 := Nat.ne_of_lt (Nat.lt_of_lt_of_le V252_b245.lt sb253)
        have ne_b250_bb253 : b250 ≠ bb253 := Nat.ne_of_lt (Nat.lt_of_lt_of_le A250.lt sb253)
        have S254_COMPACT_STRINGS := own_stakeep S251_COMPACT_STRINGS K253 (allS (own_plainE A250) all0)
        have V255_b245 := V252_b245.keep K253 (ninS ne_b245_b250 nin0)
        have N253 := Fr.app N247 Nq253
        have O253 := O250.keep K253 (allS n0_b250 all0)
        have Z253 : n0 ≤ T253.heap.size := Nat.le_trans Z250 K253.1
        replace hk := Nat.le_trans hk K253.1
        show GoP p e below Φ (T253.setTop (mkF m 128 #[.val (.int p1), .val (.int p2), .val (.int p3), .val (.int p4), .val (.int (0 : Int32)), .val (.int (0 : Int32)), .val (.int (1 : Int32)), .val (.int (1 : Int32)), .val (.ref b245), .unset, .unset, .unset, .unset] [(.ref b250)]))
        refine own_astore X253 hx hby at_128 rfl (Ls' := #[.val (.int p1), .val (.int p2), .val (.int p3), .val (.int p4), .val (.int (0 : Int32)), .val (.int (0 : Int32)), .val (.int (1 : Int32)), .val (.int (1 : Int32)), .val (.ref b245), .val (.ref b250), .unset, .unset, .unset]) rfl (pc' := 130) rfl ?_
        refine own_iload X253 hx hby at_130 rfl (pc' := 132) rfl ?_
        refine own_ifN X253 hx hby at_132 ((if0 _ _).trans (feq (by decide)).1) (pc' := 135) rfl ?_
        refine own_aconst_null X253 hx hby at_135 (pc' := 136) rfl ?_
        refine own_goto X253 hx hby at_136 (by decide) (pc' := 148) (by decide) ?_
        refine own_astore X253 hx hby at_148 rfl (Ls' := #[.val (.int p1), .val (.int p2), .val (.int p3), .val (.int p4), .val (.int (0 : Int32)), .val (.int (0 : Int32)), .val (.int (1 : Int32)), .val (.int (1 : Int32)), .val (.ref b245), .val (.ref b250), .val .null, .unset, .unset]) rfl (pc' := 150) rfl ?_
        obtain ⟨T256, h256, X256, e256, E256, A256, D256, -, st256⟩ := newO X253 hx hZ hown (own_w hw 37 rfl) (own_w hw 38 rfl) (own_w hw 39 rfl) rfl (g := (mkF m 150 #[.val (.int p1), .val (.int p2), .val (.int p3), .val (.int p4), .val (.int (0 : Int32)), .val (.int (0 : Int32)), .val (.int (1 : Int32)), .val (.int (1 : Int32)), .val (.ref b245), .val (.ref b250), .val .null, .unset, .unset] [])) rfl (hb hby at_150) (by decide) (by decide)
        obtain ⟨b256, g256⟩ : ∃ z, z = T253.heap.size := ⟨_, rfl⟩
        have ne_b245_b256 : b245 ≠ b256 := Nat.ne_of_lt (g256 ▸ V255_b245.lt)
        have ne_b250_b256 : b250 ≠ b256 := Nat.ne_of_lt (g256 ▸ E253.lt)
        have ne_bb253_b256 : bb253 ≠ b256 := Nat.ne_of_lt (g256 ▸ V253.lt)
        have S257_COMPACT_STRINGS := S254_COMPACT_STRINGS.ext E256
        have V258_b245 := V255_b245.ext E256
        have E259_b250 := E253.ext E256
        have F260_value := FV253.ext E256
        have F261_coder := FC253.ext E256
        have V262_bb253 := V253.ext E256
        replace hk := Nat.le_trans hk E256.1
        have Z256 : n0 ≤ h256.size := Nat.le_trans Z253 E256.1
        have n0_b256 : n0 ≤ b256 := g256 ▸ Z253
        have O256 := O253.ext E256
        rw [← g256] at A256 D256 st256
        refine own_step st256 ?_
        have F256_id : Fld Z h256 b256 "com/example/tracemass/tracemass/nets/PetriNet$TransitionNode" "id" "Ljava/lang/String;" .null := D256 (Or.inr (own_w hw 50 rfl)) (ty := (.object "java/lang/String")) (by decide)
        have F256_name : Fld Z h256 b256 "com/example/tracemass/tracemass/nets/PetriNet$TransitionNode" "name" "Ljava/lang/String;" .null := D256 (Or.inr (own_w hw 52 rfl)) (ty := (.object "java/lang/String")) (by decide)
        have F256_silent : Fld Z h256 b256 "com/example/tracemass/tracemass/nets/PetriNet$TransitionNode" "silent" "Z" (.int (0 : Int32)) := D256 (Or.inr (own_w hw 54 rfl)) (ty := .boolean) (by decide)
        show GoP p e below Φ (T256.setTop (mkF m 153 #[.val (.int p1), .val (.int p2), .val (.int p3), .val (.int p4), .val (.int (0 : Int32)), .val (.int (0 : Int32)), .val (.int (1 : Int32)), .val (.int (1 : Int32)), .val (.ref b245), .val (.ref b250), .val .null, .unset, .unset] [(.ref b256)]))
        refine own_dup X256 hx hby at_153 rfl (pc' := 154) rfl ?_
        refine own_aload X256 hx hby at_154 rfl rfl (pc' := 156) rfl ?_
        refine own_aload X256 hx hby at_156 rfl rfl (pc' := 158) rfl ?_
        refine own_iload X256 hx hby at_158 rfl (pc' := 160) rfl ?_
        refine own_callI X256 hx hby hZ (by exact hml) hown rfl (own_w hw 40 rfl) (own_w hw 41 rfl) (own_w hw 39 rfl) (own_w hw 42 rfl) (by decide) e256 1 (by decide) (by decide) (by decide) (by decide) (argsL := [.null, (.ref b250), (.int (0 : Int32))]) (rest := [(.ref b256)]) (lenOf pd__Ljava_lang_String_Ljava_lang_String_Z_V rfl) rfl (Nat.le_of_eq rfl) (rmT_0NR l Z a0 hw b256  b250 n0 h256 n0_b256 A256 F256_id F256_name F256_silent) at_160 (pc' := 163) rfl ?_
        intro v263 T263 L263 X263 hQ263
        obtain ⟨rfl, Nq263, K263, E263, FN263, FS263⟩ := hQ263
        have S264_COMPACT_STRINGS := own_stakeep S257_COMPACT_STRINGS K263 (allS (own_plainE A256) all0)
        have V265_b245 := V258_b245.keep K263 (ninS ne_b245_b256 nin0)
        have E266_b250 := E259_b250.keep K263
        have F267_value := F260_value.keep K263 (ninS ne_b250_b256 nin0)
        have F268_coder := F261_coder.keep K263 (ninS ne_b250_b256 nin0)
        have V269_bb253 := V262_bb253.keep K263 (ninS ne_bb253_b256 nin0)
        have N263 := Fr.app N253 Nq263
        have O263 := O256.keep K263 (allS n0_b256 all0)
        have Z263 : n0 ≤ T263.heap.size := Nat.le_trans Z256 K263.1
        replace hk := Nat.le_trans hk K263.1
        show GoP p e below Φ (T263.setTop (mkF m 163 #[.val (.int p1), .val (.int p2), .val (.int p3), .val (.int p4), .val (.int (0 : Int32)), .val (.int (0 : Int32)), .val (.int (1 : Int32)), .val (.int (1 : Int32)), .val (.ref b245), .val (.ref b250), .val .null, .unset, .unset] [(.ref b256)]))
        refine own_astore X263 hx hby at_163 rfl (Ls' := #[.val (.int p1), .val (.int p2), .val (.int p3), .val (.int p4), .val (.int (0 : Int32)), .val (.int (0 : Int32)), .val (.int (1 : Int32)), .val (.int (1 : Int32)), .val (.ref b245), .val (.ref b250), .val .null, .val (.ref b256), .unset]) rfl (pc' := 165) rfl ?_
        refine own_aload X263 hx hby at_165 rfl rfl (pc' := 167) rfl ?_
        refine own_callV X263 hx hby hZ (by exact hml) hown (own_w hw 55 rfl) (own_w hw 56 rfl) (own_w hw 58 rfl) (own_w hw 57 rfl) (own_w hw 39 rfl) (own_w hw 59 rfl) (by decide) rfl 0 (by decide) (by decide) (by decide) (by decide) (argsL := []) (rest := []) (lenOf pd___Ljava_lang_String_ rfl) rfl (Nat.le_of_eq rfl) E263 (rmL0 l Z a0 hw b256 b250 T263.heap FS263 FN263) at_167 (pc' := 170) rfl ?_
        intro v271 T271 L271 X271 hQ271
        obtain ⟨rfl, rfl, e271⟩ := hQ271
        rw [List.append_nil] at X271
        replace e271 : T271.heap = T263.heap := e271
        show GoP p e below Φ (T271.setTop (mkF m 170 #[.val (.int p1), .val (.int p2), .val (.int p3), .val (.int p4), .val (.int (0 : Int32)), .val (.int (0 : Int32)), .val (.int (1 : Int32)), .val (.int (1 : Int32)), .val (.ref b245), .val (.ref b250), .val .null, .val (.ref b256), .unset] [(.ref b250)]))
        refine own_astore X271 hx hby at_170 rfl (Ls' := #[.val (.int p1), .val (.int p2), .val (.int p3), .val (.int p4), .val (.int (0 : Int32)), .val (.int (0 : Int32)), .val (.int (1 : Int32)), .val (.int (1 : Int32)), .val (.ref b245), .val (.ref b250), .val .null, .val (.ref b256), .val (.ref b250)]) rfl (pc' := 172) rfl ?_
        refine own_iload X271 hx hby at_172 rfl (pc' := 174) rfl ?_
        refine own_ifY X271 hx hby at_174 ((if0 _ _).trans (teq (by decide)).1) (by decide) (pc' := 188) (by decide) ?_
        refine own_aload X271 hx hby at_188 rfl rfl (pc' := 190) rfl ?_
        refine own_aload X271 hx hby at_190 rfl rfl (pc' := 192) rfl ?_
        refine own_acmp X271 hx hby at_192 rfl rfl (same := true) (decide_eq_true (congrArg Value.ref rfl)) (by decide) (pc' := 195) (by decide) ?_
        refine own_aload X271 hx hby at_195 rfl rfl (pc' := 197) rfl ?_
        refine own_callV X271 hx hby hZ (by exact hml) hown (own_w hw 60 rfl) (own_w hw 61 rfl) (own_w hw 63 rfl) (own_w hw 62 rfl) (own_w hw 3 rfl) (own_w hw 64 rfl) (by decide) e271 0 (by decide) (by decide) (by decide) (by decide) (argsL := []) (rest := []) (lenOf pd___I rfl) rfl (Nat.le_of_eq rfl) E266_b250 (rmLen1 l Z a0 hw b250 bb253 cs (nar .byte (y2.toInt8.toInt32)) T263.heap hcs S264_COMPACT_STRINGS E266_b250 F268_coder F267_value V269_bb253) at_197 (pc' := 200) rfl ?_
        intro v272 T272 L272 X272 hQ272
        obtain ⟨rfl, rfl, e272⟩ := hQ272
        rw [List.append_nil] at X272
        replace e272 : T272.heap = T263.heap := e272
        show GoP p e below Φ (T272.setTop (mkF m 200 #[.val (.int p1), .val (.int p2), .val (.int p3), .val (.int p4), .val (.int (0 : Int32)), .val (.int (0 : Int32)), .val (.int (1 : Int32)), .val (.int (1 : Int32)), .val (.ref b245), .val (.ref b250), .val .null, .val (.ref b256), .val (.ref b250)] [(.int (1 : Int32))]))
        refine own_iload X272 hx hby at_200 rfl (pc' := 202) rfl ?_
        refine own_icmpN X272 hx hby at_202 (teq (by decide)).2 (pc' := 205) rfl ?_
        refine own_aload X272 hx hby at_205 rfl rfl (pc' := 207) rfl ?_
        obtain ⟨T273, h273, X273, e273, E273, A273, D273, -, st273⟩ := newO X272 hx hZ hown (own_w hw 1 rfl) (own_w hw 2 rfl) (own_w hw 3 rfl) e272 (g := (mkF m 207 #[.val (.int p1), .val (.int p2), .val (.int p3), .val (.int p4), .val (.int (0 : Int32)), .val (.int (0 : Int32)), .val (.int (1 : Int32)), .val (.int (1 : Int32)), .val (.ref b245), .val (.ref b250), .val .null, .val (.ref b256), .val (.ref b250)] [(.ref b250)])) rfl (hb hby at_207) (by decide) (by decide)
        obtain ⟨b273, g273⟩ : ∃ z, z = T263.heap.size := ⟨_, rfl⟩
        have ne_b245_b273 : b245 ≠ b273 := Nat.ne_of_lt (g273 ▸ V265_b245.lt)
        have ne_b250_b273 : b250 ≠ b273 := Nat.ne_of_lt (g273 ▸ E266_b250.lt)
        have ne_bb253_b273 : bb253 ≠ b273 := Nat.ne_of_lt (g273 ▸ V269_bb253.lt)
        have ne_b256_b273 : b256 ≠ b273 := Nat.ne_of_lt (g273 ▸ E263.lt)
        have S274_COMPACT_STRINGS := S264_COMPACT_STRINGS.ext E273
        have V275_b245 := V265_b245.ext E273
        have E276_b250 := E266_b250.ext E273
        have F277_value := F267_value.ext E273
        have F278_coder := F268_coder.ext E273
        have V279_bb253 := V269_bb253.ext E273
        have E280_b256 := E263.ext E273
        have F281_name := FN263.ext E273
        have F282_silent := FS263.ext E273
        replace hk := Nat.le_trans hk E273.1
        have Z273 : n0 ≤ h273.size := Nat.le_trans Z263 E273.1
        have n0_b273 : n0 ≤ b273 := g273 ▸ Z263
        have O273 := O263.ext E273
        rw [← g273] at A273 D273 st273
        refine own_step st273 ?_
        have F273_value : Fld Z h273 b273 "java/lang/String" "value" "[B" .null := D273 (Or.inr (own_w hw 16 rfl)) (ty := (.array .byte)) (by decide)
        have F273_coder : Fld Z h273 b273 "java/lang/String" "coder" "B" (.int (0 : Int32)) := D273 (Or.inr (own_w hw 17 rfl)) (ty := .byte) (by decide)
        show GoP p e below Φ (T273.setTop (mkF m 210 #[.val (.int p1), .val (.int p2), .val (.int p3), .val (.int p4), .val (.int (0 : Int32)), .val (.int (0 : Int32)), .val (.int (1 : Int32)), .val (.int (1 : Int32)), .val (.ref b245), .val (.ref b250), .val .null, .val (.ref b256), .val (.ref b250)] [(.ref b273), (.ref b250)]))
        refine own_dup X273 hx hby at_210 rfl (pc' := 211) rfl ?_
        refine own_aload X273 hx hby at_211 rfl rfl (pc' := 213) rfl ?_
        refine own_callI X273 hx hby hZ (by exact hml) hown rfl (own_w hw 4 rfl) (own_w hw 5 rfl) (own_w hw 3 rfl) (own_w hw 6 rfl) (by decide) e273 2 (by decide) (by decide) (by decide) (by decide) (argsL := [(.ref b245)]) (rest := [(.ref b273), (.ref b250)]) (lenOf pd___C_V rfl) rfl (Nat.le_of_eq rfl) (rmI1_1 l Z a0 hw b273 b245 cs y2 n0 h273 hcs hy2 n0_b273 Z273 (Ne.symm ne_b245_b273) S274_COMPACT_STRINGS A273 F273_coder F273_value V275_b245) at_213 (pc' := 216) rfl ?_
        intro v283 T283 L283 X283 hQ283
        obtain ⟨rfl, Nq283, K283, bb283, sb283, E283, FC283, FV283, V283⟩ := hQ283
        have ne_b245_bb283 : b245 ≠ bb283 := Nat.ne_of_lt (Nat.lt_of_lt_of_le V275_b245.lt sb283)
        have ne_b250_bb283 : b250 ≠ bb283 := Nat.ne_of_lt (Nat.lt_of_lt_of_le E276_b250.lt sb283)
        have ne_bb253_bb283 : bb253 ≠ bb283 := Nat.ne_of_lt (Nat.lt_of_lt_of_le V279_bb253.lt sb283)
        have ne_b256_bb283 : b256 ≠ bb283 := Nat.ne_of_lt (Nat.lt_of_lt_of_le E280_b256.lt sb283)
        have ne_b273_bb283 : b273 ≠ bb283 := Nat.ne_of_lt (Nat.lt_of_lt_of_le A273.lt sb283)
        have S284_COMPACT_STRINGS := own_stakeep S274_COMPACT_STRINGS K283 (allS (own_plainE A273) all0)
        have V285_b245 := V275_b245.keep K283 (ninS ne_b245_b273 nin0)
        have E286_b250 := E276_b250.keep K283
        have F287_value := F277_value.keep K283 (ninS ne_b250_b273 nin0)
        have F288_coder := F278_coder.keep K283 (ninS ne_b250_b273 nin0)
        have V289_bb253 := V279_bb253.keep K283 (ninS ne_bb253_b273 nin0)
        have E290_b256 := E280_b256.keep K283
        have F291_name := F281_name.keep K283 (ninS ne_b256_b273 nin0)
        have F292_silent := F282_silent.keep K283 (ninS ne_b256_b273 nin0)
        have N283 := Fr.app N263 Nq283
        have O283 := O273.keep K283 (allS n0_b273 all0)
        have Z283 : n0 ≤ T283.heap.size := Nat.le_trans Z273 K283.1
        replace hk := Nat.le_trans hk K283.1
        show GoP p e below Φ (T283.setTop (mkF m 216 #[.val (.int p1), .val (.int p2), .val (.int p3), .val (.int p4), .val (.int (0 : Int32)), .val (.int (0 : Int32)), .val (.int (1 : Int32)), .val (.int (1 : Int32)), .val (.ref b245), .val (.ref b250), .val .null, .val (.ref b256), .val (.ref b250)] [(.ref b273), (.ref b250)]))
        refine own_callV X283 hx hby hZ (by exact hml) hown (own_w hw 70 rfl) (own_w hw 71 rfl) (own_w hw 73 rfl) (own_w hw 72 rfl) (own_w hw 3 rfl) (own_w hw 74 rfl) (by decide) rfl 0 (by decide) (by decide) (by decide) (by decide) (argsL := [(.ref b273)]) (rest := []) (lenOf pd__Ljava_lang_Object__Z rfl) rfl (Nat.le_of_eq rfl) E286_b250 (rmEq_1 l Z a0 hw b250 b273 bb253 bb283 cs (nar .byte (y2.toInt8.toInt32)) T283.heap hcs ne_b250_b273 S284_COMPACT_STRINGS E286_b250 F288_coder F287_value V289_bb253 E283 FC283 FV283 V283) at_216 (pc' := 219) rfl ?_
        intro v293 T293 L293 X293 hQ293
        obtain ⟨rfl, rfl, e293⟩ := hQ293
        rw [List.append_nil] at X293
        replace e293 : T293.heap = T283.heap := e293
        show GoP p e below Φ (T293.setTop (mkF m 219 #[.val (.int p1), .val (.int p2), .val (.int p3), .val (.int p4), .val (.int (0 : Int32)), .val (.int (0 : Int32)), .val (.int (1 : Int32)), .val (.int (1 : Int32)), .val (.ref b245), .val (.ref b250), .val .null, .val (.ref b256), .val (.ref b250)] [(.int (1 : Int32))]))
        refine own_ifN X293 hx hby at_219 ((if0 _ _).trans (feq (by decide)).1) (pc' := 222) rfl ?_
        refine own_iconst X293 hx hby at_222 (v := (1 : Int32)) rfl (pc' := 223) rfl ?_
        refine own_goto X293 hx hby at_223 (by decide) (pc' := 227) (by decide) ?_
        exact own_retN X293 hx hby (fin _ _ hS) hret (by simp) rfl at_227 (by decide) (by decide) ⟨⟨rfl, N283⟩, (by rw [e293]; exact hk)⟩
      · refine own_iload X hx hby at_51 rfl (pc' := 53) rfl ?_
        refine own_ifY X hx hby at_53 ((if0 _ _).trans (feq (by decide)).2) (by decide) (pc' := 64) (by decide) ?_
        refine own_iload X hx hby at_64 rfl (pc' := 66) rfl ?_
        refine own_iconst X hx hby at_66 (v := (1 : Int32)) rfl (pc' := 67) rfl ?_
        refine own_icmpY X hx hby at_67 (feq (by decide)).2 (by decide) (pc' := 87) (by decide) ?_
        refine own_iconst X hx hby at_87 (v := (2 : Int32)) rfl (pc' := 88) rfl ?_
        obtain ⟨T294, h294, k294, X294, e294, E294, A294, st294⟩ := newP X hx hZ (own_w hw 0 rfl) eT (g := (mkF m 88 #[.val (.int p1), .val (.int p2), .val (.int p3), .val (.int p4), .val (.int (0 : Int32)), .val (.int (0 : Int32)), .val (.int (1 : Int32)), .val (.int (2 : Int32)), .unset, .unset, .unset, .unset, .unset] [(.int (2 : Int32))])) rfl (hb hby at_88) rfl (by decide) (cap := 2) (by decide) (by decide) (by decide) (by decide)
        obtain ⟨b294, g294⟩ : ∃ z, z = h0.size := ⟨_, rfl⟩
        have S295_COMPACT_STRINGS := Scs.ext E294
        replace hk := Nat.le_trans hk E294.1
        have Z294 : n0 ≤ h294.size := Nat.le_trans Z0 E294.1
        have n0_b294 : n0 ≤ b294 := g294 ▸ Z0
        have O294 := O0.ext E294
        rw [← g294] at A294 st294
        refine own_step st294 ?_
        have V294 : AV Z h294 b294 .char [(.int (0 : Int32)), (.int (0 : Int32))] := AV.new A294 (by decide)
        show GoP p e below Φ (T294.setTop (mkF m 90 #[.val (.int p1), .val (.int p2), .val (.int p3), .val (.int p4), .val (.int (0 : Int32)), .val (.int (0 : Int32)), .val (.int (1 : Int32)), .val (.int (2 : Int32)), .unset, .unset, .unset, .unset, .unset] [(.ref b294)]))
        refine own_dup X294 hx hby at_90 rfl (pc' := 91) rfl ?_
        refine own_iconst X294 hx hby at_91 (v := (0 : Int32)) rfl (pc' := 92) rfl ?_
        refine own_iloadN X294 hx hby at_92 rfl (pc' := 93) rfl ?_
        refine own_sipush X294 hx hby at_93 (v := (255 : Int32)) rfl (pc' := 96) rfl ?_
        refine own_iand X294 hx hby at_96 (pc' := 97) rfl ?_
        refine own_i2c X294 hx hby at_97 (pc' := 98) rfl ?_
        obtain ⟨y2, ey2, hy2⟩ : ∃ x : Int32, x = (nar .char ((p2 &&& (255 : Int32)).toUInt32.toUInt16.toUInt32.toInt32)) ∧ ¬ (255 : Int32) < x := ⟨_, rfl, own_chr p2⟩
        refine own_castore X294 hx hby hZ e294 V294 (by decide) (Nat.le_of_ble_eq_true rfl) at_98 (pc' := 99) rfl ?_
        intro T296 h296 X296 e296 W296 V296
        replace V296 : AV Z h296 b294 .char [(.int (nar .char ((p2 &&& (255 : Int32)).toUInt32.toUInt16.toUInt32.toInt32))), (.int (0 : Int32))] := V296
        have S297_COMPACT_STRINGS := S295_COMPACT_STRINGS.wr W296
        replace hk := W296.size.symm ▸ hk
        have Z296 : n0 ≤ h296.size := by rw [W296.size]; exact Z294
        have O296 := O294.wr W296 n0_b294
        have N296 := Fr.snoc X296 N0 n0_b294
        rw [← ey2] at V296
        refine own_dup X296 hx hby at_99 rfl (pc' := 100) rfl ?_
        refine own_iconst X296 hx hby at_100 (v := (1 : Int32)) rfl (pc' := 101) rfl ?_
        refine own_iloadN X296 hx hby at_101 rfl (pc' := 102) rfl ?_
        refine own_sipush X296 hx hby at_102 (v := (255 : Int32)) rfl (pc' := 105) rfl ?_
        refine own_iand X296 hx hby at_105 (pc' := 106) rfl ?_
        refine own_i2c X296 hx hby at_106 (pc' := 107) rfl ?_
        obtain ⟨y3, ey3, hy3⟩ : ∃ x : Int32, x = (nar .char ((p3 &&& (255 : Int32)).toUInt32.toUInt16.toUInt32.toInt32)) ∧ ¬ (255 : Int32) < x := ⟨_, rfl, own_chr p3⟩
        refine own_castore X296 hx hby hZ e296 V296 (by decide) (Nat.le_of_ble_eq_true rfl) at_107 (pc' := 108) rfl ?_
        intro T299 h299 X299 e299 W299 V299
        replace V299 : AV Z h299 b294 .char [(.int y2), (.int (nar .char ((p3 &&& (255 : Int32)).toUInt32.toUInt16.toUInt32.toInt32)))] := V299
        have S300_COMPACT_STRINGS := S297_COMPACT_STRINGS.wr W299
        replace hk := W299.size.symm ▸ hk
        have Z299 : n0 ≤ h299.size := by rw [W299.size]; exact Z296
        have O299 := O296.wr W299 n0_b294
        have N299 := Fr.snoc X299 N296 n0_b294
        rw [← ey3] at V299
        refine own_astore X299 hx hby at_108 rfl (Ls' := #[.val (.int p1), .val (.int p2), .val (.int p3), .val (.int p4), .val (.int (0 : Int32)), .val (.int (0 : Int32)), .val (.int (1 : Int32)), .val (.int (2 : Int32)), .val (.ref b294), .unset, .unset, .unset, .unset]) rfl (pc' := 110) rfl ?_
        refine own_iload X299 hx hby at_110 rfl (pc' := 112) rfl ?_
        refine own_ifY X299 hx hby at_112 ((if0 _ _).trans (teq (by decide)).1) (by decide) (pc' := 119) (by decide) ?_
        obtain ⟨T302, h302, X302, e302, E302, A302, D302, -, st302⟩ := newO X299 hx hZ hown (own_w hw 1 rfl) (own_w hw 2 rfl) (own_w hw 3 rfl) e299 (g := (mkF m 119 #[.val (.int p1), .val (.int p2), .val (.int p3), .val (.int p4), .val (.int (0 : Int32)), .val (.int (0 : Int32)), .val (.int (1 : Int32)), .val (.int (2 : Int32)), .val (.ref b294), .unset, .unset, .unset, .unset] [])) rfl (hb hby at_119) (by decide) (by decide)
        obtain ⟨b302, g302⟩ : ∃ z, z = h299.size := ⟨_, rfl⟩
        have ne_b294_b302 : b294 ≠ b302 := Nat.ne_of_lt (g302 ▸ V299.lt)
        have S303_COMPACT_STRINGS := S300_COMPACT_STRINGS.ext E302
        have V304_b294 := V299.ext E302
        replace hk := Nat.le_trans hk E302.1
        have Z302 : n0 ≤ h302.size := Nat.le_trans Z299 E302.1
        have n0_b302 : n0 ≤ b302 := g302 ▸ Z299
        have O302 := O299.ext E302
        rw [← g302] at A302 D302 st302
        refine own_step st302 ?_
        have F302_value : Fld Z h302 b302 "java/lang/String" "value" "[B" .null := D302 (Or.inr (own_w hw 16 rfl)) (ty := (.array .byte)) (by decide)
        have F302_coder : Fld Z h302 b302 "java/lang/String" "coder" "B" (.int (0 : Int32)) := D302 (Or.inr (own_w hw 17 rfl)) (ty := .byte) (by decide)
        show GoP p e below Φ (T302.setTop (mkF m 122 #[.val (.int p1), .val (.int p2), .val (.int p3), .val (.int p4), .val (.int (0 : Int32)), .val (.int (0 : Int32)), .val (.int (1 : Int32)), .val (.int (2 : Int32)), .val (.ref b294), .unset, .unset, .unset, .unset] [(.ref b302)]))
        refine own_dup X302 hx hby at_122 rfl (pc' := 123) rfl ?_
        refine own_aload X302 hx hby at_123 rfl rfl (pc' := 125) rfl ?_
        refine own_callI X302 hx hby hZ (by exact hml) hown rfl (own_w hw 4 rfl) (own_w hw 5 rfl) (own_w hw 3 rfl) (own_w hw 6 rfl) (by decide) e302 1 (by decide) (by decide) (by decide) (by decide) (argsL := [(.ref b294)]) (rest := [(.ref b302)]) (lenOf pd___C_V rfl) rfl (Nat.le_of_eq rfl) (rmI1_2 l Z a0 hw b302 b294 cs y2 y3 n0 h302 hcs hy2 hy3 n0_b302 Z302 (Ne.symm ne_b294_b302) S303_COMPACT_STRINGS A302 F302_coder F302_value V304_b294) at_125 (pc' := 128) rfl ?_
        intro v305 T305 L305 X305 hQ305
        obtain ⟨rfl, Nq305, K305, bb305, sb305, E305, FC305, FV305, V305⟩ := hQ305
        have ne_b294_bb305 : b294 ≠ bb305 := Nat.ne_of_lt (Nat.lt_of_lt_of_le V304_b294.lt sb305)
        have ne_b302_bb305 : b302 ≠ bb305 := Nat.ne_of_lt (Nat.lt_of_lt_of_le A302.lt sb305)
        have S306_COMPACT_STRINGS := own_stakeep S303_COMPACT_STRINGS K305 (allS (own_plainE A302) all0)
        have V307_b294 := V304_b294.keep K305 (ninS ne_b294_b302 nin0)
        have N305 := Fr.app N299 Nq305
        have O305 := O302.keep K305 (allS n0_b302 all0)
        have Z305 : n0 ≤ T305.heap.size := Nat.le_trans Z302 K305.1
        replace hk := Nat.le_trans hk K305.1
        show GoP p e below Φ (T305.setTop (mkF m 128 #[.val (.int p1), .val (.int p2), .val (.int p3), .val (.int p4), .val (.int (0 : Int32)), .val (.int (0 : Int32)), .val (.int (1 : Int32)), .val (.int (2 : Int32)), .val (.ref b294), .unset, .unset, .unset, .unset] [(.ref b302)]))
        refine own_astore X305 hx hby at_128 rfl (Ls' := #[.val (.int p1), .val (.int p2), .val (.int p3), .val (.int p4), .val (.int (0 : Int32)), .val (.int (0 : Int32)), .val (.int (1 : Int32)), .val (.int (2 : Int32)), .val (.ref b294), .val (.ref b302), .unset, .unset, .unset]) rfl (pc' := 130) rfl ?_
        refine own_iload X305 hx hby at_130 rfl (pc' := 132) rfl ?_
        refine own_ifN X305 hx hby at_132 ((if0 _ _).trans (feq (by decide)).1) (pc' := 135) rfl ?_
        refine own_aconst_null X305 hx hby at_135 (pc' := 136) rfl ?_
        refine own_goto X305 hx hby at_136 (by decide) (pc' := 148) (by decide) ?_
        refine own_astore X305 hx hby at_148 rfl (Ls' := #[.val (.int p1), .val (.int p2), .val (.int p3), .val (.int p4), .val (.int (0 : Int32)), .val (.int (0 : Int32)), .val (.int (1 : Int32)), .val (.int (2 : Int32)), .val (.ref b294), .val (.ref b302), .val .null, .unset, .unset]) rfl (pc' := 150) rfl ?_
        obtain ⟨T308, h308, X308, e308, E308, A308, D308, -, st308⟩ := newO X305 hx hZ hown (own_w hw 37 rfl) (own_w hw 38 rfl) (own_w hw 39 rfl) rfl (g := (mkF m 150 #[.val (.int p1), .val (.int p2), .val (.int p3), .val (.int p4), .val (.int (0 : Int32)), .val (.int (0 : Int32)), .val (.int (1 : Int32)), .val (.int (2 : Int32)), .val (.ref b294), .val (.ref b302), .val .null, .unset, .unset] [])) rfl (hb hby at_150) (by decide) (by decide)
        obtain ⟨b308, g308⟩ : ∃ z, z = T305.heap.size := ⟨_, rfl⟩
        have ne_b294_b308 : b294 ≠ b308 := Nat.ne_of_lt (g308 ▸ V307_b294.lt)
        have ne_b302_b308 : b302 ≠ b308 := Nat.ne_of_lt (g308 ▸ E305.lt)
        have ne_bb305_b308 : bb305 ≠ b308 := Nat.ne_of_lt (g308 ▸ V305.lt)
        have S309_COMPACT_STRINGS := S306_COMPACT_STRINGS.ext E308
        have V310_b294 := V307_b294.ext E308
        have E311_b302 := E305.ext E308
        have F312_value := FV305.ext E308
        have F313_coder := FC305.ext E308
        have V314_bb305 := V305.ext E308
        replace hk := Nat.le_trans hk E308.1
        have Z308 : n0 ≤ h308.size := Nat.le_trans Z305 E308.1
        have n0_b308 : n0 ≤ b308 := g308 ▸ Z305
        have O308 := O305.ext E308
        rw [← g308] at A308 D308 st308
        refine own_step st308 ?_
        have F308_id : Fld Z h308 b308 "com/example/tracemass/tracemass/nets/PetriNet$TransitionNode" "id" "Ljava/lang/String;" .null := D308 (Or.inr (own_w hw 50 rfl)) (ty := (.object "java/lang/String")) (by decide)
        have F308_name : Fld Z h308 b308 "com/example/tracemass/tracemass/nets/PetriNet$TransitionNode" "name" "Ljava/lang/String;" .null := D308 (Or.inr (own_w hw 52 rfl)) (ty := (.object "java/lang/String")) (by decide)
        have F308_silent : Fld Z h308 b308 "com/example/tracemass/tracemass/nets/PetriNet$TransitionNode" "silent" "Z" (.int (0 : Int32)) := D308 (Or.inr (own_w hw 54 rfl)) (ty := .boolean) (by decide)
        show GoP p e below Φ (T308.setTop (mkF m 153 #[.val (.int p1), .val (.int p2), .val (.int p3), .val (.int p4), .val (.int (0 : Int32)), .val (.int (0 : Int32)), .val (.int (1 : Int32)), .val (.int (2 : Int32)), .val (.ref b294), .val (.ref b302), .val .null, .unset, .unset] [(.ref b308)]))
        refine own_dup X308 hx hby at_153 rfl (pc' := 154) rfl ?_
        refine own_aload X308 hx hby at_154 rfl rfl (pc' := 156) rfl ?_
        refine own_aload X308 hx hby at_156 rfl rfl (pc' := 158) rfl ?_
        refine own_iload X308 hx hby at_158 rfl (pc' := 160) rfl ?_
        refine own_callI X308 hx hby hZ (by exact hml) hown rfl (own_w hw 40 rfl) (own_w hw 41 rfl) (own_w hw 39 rfl) (own_w hw 42 rfl) (by decide) e308 1 (by decide) (by decide) (by decide) (by decide) (argsL := [.null, (.ref b302), (.int (0 : Int32))]) (rest := [(.ref b308)]) (lenOf pd__Ljava_lang_String_Ljava_lang_String_Z_V rfl) rfl (Nat.le_of_eq rfl) (rmT_0NR l Z a0 hw b308  b302 n0 h308 n0_b308 A308 F308_id F308_name F308_silent) at_160 (pc' := 163) rfl ?_
        intro v315 T315 L315 X315 hQ315
        obtain ⟨rfl, Nq315, K315, E315, FN315, FS315⟩ := hQ315
        have S316_COMPACT_STRINGS := own_stakeep S309_COMPACT_STRINGS K315 (allS (own_plainE A308) all0)
        have V317_b294 := V310_b294.keep K315 (ninS ne_b294_b308 nin0)
        have E318_b302 := E311_b302.keep K315
        have F319_value := F312_value.keep K315 (ninS ne_b302_b308 nin0)
        have F320_coder := F313_coder.keep K315 (ninS ne_b302_b308 nin0)
        have V321_bb305 := V314_bb305.keep K315 (ninS ne_bb305_b308 nin0)
        have N315 := Fr.app N305 Nq315
        have O315 := O308.keep K315 (allS n0_b308 all0)
        have Z315 : n0 ≤ T315.heap.size := Nat.le_trans Z308 K315.1
        replace hk := Nat.le_trans hk K315.1
        show GoP p e below Φ (T315.setTop (mkF m 163 #[.val (.int p1), .val (.int p2), .val (.int p3), .val (.int p4), .val (.int (0 : Int32)), .val (.int (0 : Int32)), .val (.int (1 : Int32)), .val (.int (2 : Int32)), .val (.ref b294), .val (.ref b302), .val .null, .unset, .unset] [(.ref b308)]))
        refine own_astore X315 hx hby at_163 rfl (Ls' := #[.val (.int p1), .val (.int p2), .val (.int p3), .val (.int p4), .val (.int (0 : Int32)), .val (.int (0 : Int32)), .val (.int (1 : Int32)), .val (.int (2 : Int32)), .val (.ref b294), .val (.ref b302), .val .null, .val (.ref b308), .unset]) rfl (pc' := 165) rfl ?_
        refine own_aload X315 hx hby at_165 rfl rfl (pc' := 167) rfl ?_
        refine own_callV X315 hx hby hZ (by exact hml) hown (own_w hw 55 rfl) (own_w hw 56 rfl) (own_w hw 58 rfl) (own_w hw 57 rfl) (own_w hw 39 rfl) (own_w hw 59 rfl) (by decide) rfl 0 (by decide) (by decide) (by decide) (by decide) (argsL := []) (rest := []) (lenOf pd___Ljava_lang_String_ rfl) rfl (Nat.le_of_eq rfl) E315 (rmL0 l Z a0 hw b308 b302 T315.heap FS315 FN315) at_167 (pc' := 170) rfl ?_
        intro v323 T323 L323 X323 hQ323
        obtain ⟨rfl, rfl, e323⟩ := hQ323
        rw [List.append_nil] at X323
        replace e323 : T323.heap = T315.heap := e323
        show GoP p e below Φ (T323.setTop (mkF m 170 #[.val (.int p1), .val (.int p2), .val (.int p3), .val (.int p4), .val (.int (0 : Int32)), .val (.int (0 : Int32)), .val (.int (1 : Int32)), .val (.int (2 : Int32)), .val (.ref b294), .val (.ref b302), .val .null, .val (.ref b308), .unset] [(.ref b302)]))
        refine own_astore X323 hx hby at_170 rfl (Ls' := #[.val (.int p1), .val (.int p2), .val (.int p3), .val (.int p4), .val (.int (0 : Int32)), .val (.int (0 : Int32)), .val (.int (1 : Int32)), .val (.int (2 : Int32)), .val (.ref b294), .val (.ref b302), .val .null, .val (.ref b308), .val (.ref b302)]) rfl (pc' := 172) rfl ?_
        refine own_iload X323 hx hby at_172 rfl (pc' := 174) rfl ?_
        refine own_ifY X323 hx hby at_174 ((if0 _ _).trans (teq (by decide)).1) (by decide) (pc' := 188) (by decide) ?_
        refine own_aload X323 hx hby at_188 rfl rfl (pc' := 190) rfl ?_
        refine own_aload X323 hx hby at_190 rfl rfl (pc' := 192) rfl ?_
        refine own_acmp X323 hx hby at_192 rfl rfl (same := true) (decide_eq_true (congrArg Value.ref rfl)) (by decide) (pc' := 195) (by decide) ?_
        refine own_aload X323 hx hby at_195 rfl rfl (pc' := 197) rfl ?_
        refine own_callV X323 hx hby hZ (by exact hml) hown (own_w hw 60 rfl) (own_w hw 61 rfl) (own_w hw 63 rfl) (own_w hw 62 rfl) (own_w hw 3 rfl) (own_w hw 64 rfl) (by decide) e323 0 (by decide) (by decide) (by decide) (by decide) (argsL := []) (rest := []) (lenOf pd___I rfl) rfl (Nat.le_of_eq rfl) E318_b302 (rmLen2 l Z a0 hw b302 bb305 cs (nar .byte (y2.toInt8.toInt32)) (nar .byte (y3.toInt8.toInt32)) T315.heap hcs S316_COMPACT_STRINGS E318_b302 F320_coder F319_value V321_bb305) at_197 (pc' := 200) rfl ?_
        intro v324 T324 L324 X324 hQ324
        obtain ⟨rfl, rfl, e324⟩ := hQ324
        rw [List.append_nil] at X324
        replace e324 : T324.heap = T315.heap := e324
        show GoP p e below Φ (T324.setTop (mkF m 200 #[.val (.int p1), .val (.int p2), .val (.int p3), .val (.int p4), .val (.int (0 : Int32)), .val (.int (0 : Int32)), .val (.int (1 : Int32)), .val (.int (2 : Int32)), .val (.ref b294), .val (.ref b302), .val .null, .val (.ref b308), .val (.ref b302)] [(.int (2 : Int32))]))
        refine own_iload X324 hx hby at_200 rfl (pc' := 202) rfl ?_
        refine own_icmpN X324 hx hby at_202 (teq (by decide)).2 (pc' := 205) rfl ?_
        refine own_aload X324 hx hby at_205 rfl rfl (pc' := 207) rfl ?_
        obtain ⟨T325, h325, X325, e325, E325, A325, D325, -, st325⟩ := newO X324 hx hZ hown (own_w hw 1 rfl) (own_w hw 2 rfl) (own_w hw 3 rfl) e324 (g := (mkF m 207 #[.val (.int p1), .val (.int p2), .val (.int p3), .val (.int p4), .val (.int (0 : Int32)), .val (.int (0 : Int32)), .val (.int (1 : Int32)), .val (.int (2 : Int32)), .val (.ref b294), .val (.ref b302), .val .null, .val (.ref b308), .val (.ref b302)] [(.ref b302)])) rfl (hb hby at_207) (by decide) (by decide)
        obtain ⟨b325, g325⟩ : ∃ z, z = T315.heap.size := ⟨_, rfl⟩
        have ne_b294_b325 : b294 ≠ b325 := Nat.ne_of_lt (g325 ▸ V317_b294.lt)
        have ne_b302_b325 : b302 ≠ b325 := Nat.ne_of_lt (g325 ▸ E318_b302.lt)
        have ne_bb305_b325 : bb305 ≠ b325 := Nat.ne_of_lt (g325 ▸ V321_bb305.lt)
        have ne_b308_b325 : b308 ≠ b325 := Nat.ne_of_lt (g325 ▸ E315.lt)
        have S326_COMPACT_STRINGS := S316_COMPACT_STRINGS.ext E325
        have V327_b294 := V317_b294.ext E325
        have E328_b302 := E318_b302.ext E325
        have F329_value := F319_value.ext E325
        have F330_coder := F320_coder.ext E325
        have V331_bb305 := V321_bb305.ext E325
        have E332_b308 := E315.ext E325
        have F333_name := FN315.ext E325
        have F334_silent := FS315.ext E325
        replace hk := Nat.le_trans hk E325.1
        have Z325 : n0 ≤ h325.size := Nat.le_trans Z315 E325.1
        have n0_b325 : n0 ≤ b325 := g325 ▸ Z315
        have O325 := O315.ext E325
        rw [← g325] at A325 D325 st325
        refine own_step st325 ?_
        have F325_value : Fld Z h325 b325 "java/lang/String" "value" "[B" .null := D325 (Or.inr (own_w hw 16 rfl)) (ty := (.array .byte)) (by decide)
        have F325_coder : Fld Z h325 b325 "java/lang/String" "coder" "B" (.int (0 : Int32)) := D325 (Or.inr (own_w hw 17 rfl)) (ty := .byte) (by decide)
        show GoP p e below Φ (T325.setTop (mkF m 210 #[.val (.int p1), .val (.int p2), .val (.int p3), .val (.int p4), .val (.int (0 : Int32)), .val (.int (0 : Int32)), .val (.int (1 : Int32)), .val (.int (2 : Int32)), .val (.ref b294), .val (.ref b302), .val .null, .val (.ref b308), .val (.ref b302)] [(.ref b325), (.ref b302)]))
        refine own_dup X325 hx hby at_210 rfl (pc' := 211) rfl ?_
        refine own_aload X325 hx hby at_211 rfl rfl (pc' := 213) rfl ?_
        refine own_callI X325 hx hby hZ (by exact hml) hown rfl (own_w hw 4 rfl) (own_w hw 5 rfl) (own_w hw 3 rfl) (own_w hw 6 rfl) (by decide) e325 2 (by decide) (by decide) (by decide) (by decide) (argsL := [(.ref b294)]) (rest := [(.ref b325), (.ref b302)]) (lenOf pd___C_V rfl) rfl (Nat.le_of_eq rfl) (rmI1_2 l Z a0 hw b325 b294 cs y2 y3 n0 h325 hcs hy2 hy3 n0_b325 Z325 (Ne.symm ne_b294_b325) S326_COMPACT_STRINGS A325 F325_coder F325_value V327_b294) at_213 (pc' := 216) rfl ?_
        intro v335 T335 L335 X335 hQ335
        obtain ⟨rfl, Nq335, K335, bb335, sb335, E335, FC335, FV335, V335⟩ := hQ335
        have ne_b294_bb335 : b294 ≠ bb335 := Nat.ne_of_lt (Nat.lt_of_lt_of_le V327_b294.lt sb335)
        have ne_b302_bb335 : b302 ≠ bb335 := Nat.ne_of_lt (Nat.lt_of_lt_of_le E328_b302.lt sb335)
        have ne_bb305_bb335 : bb305 ≠ bb335 := Nat.ne_of_lt (Nat.lt_of_lt_of_le V331_bb305.lt sb335)
        have ne_b308_bb335 : b308 ≠ bb335 := Nat.ne_of_lt (Nat.lt_of_lt_of_le E332_b308.lt sb335)
        have ne_b325_bb335 : b325 ≠ bb335 := Nat.ne_of_lt (Nat.lt_of_lt_of_le A325.lt sb335)
        have S336_COMPACT_STRINGS := own_stakeep S326_COMPACT_STRINGS K335 (allS (own_plainE A325) all0)
        have V337_b294 := V327_b294.keep K335 (ninS ne_b294_b325 nin0)
        have E338_b302 := E328_b302.keep K335
        have F339_value := F329_value.keep K335 (ninS ne_b302_b325 nin0)
        have F340_coder := F330_coder.keep K335 (ninS ne_b302_b325 nin0)
        have V341_bb305 := V331_bb305.keep K335 (ninS ne_bb305_b325 nin0)
        have E342_b308 := E332_b308.keep K335
        have F343_name := F333_name.keep K335 (ninS ne_b308_b325 nin0)
        have F344_silent := F334_silent.keep K335 (ninS ne_b308_b325 nin0)
        have N335 := Fr.app N315 Nq335
        have O335 := O325.keep K335 (allS n0_b325 all0)
        have Z335 : n0 ≤ T335.heap.size := Nat.le_trans Z325 K335.1
        replace hk := Nat.le_trans hk K335.1
        show GoP p e below Φ (T335.setTop (mkF m 216 #[.val (.int p1), .val (.int p2), .val (.int p3), .val (.int p4), .val (.int (0 : Int32)), .val (.int (0 : Int32)), .val (.int (1 : Int32)), .val (.int (2 : Int32)), .val (.ref b294), .val (.ref b302), .val .null, .val (.ref b308), .val (.ref b302)] [(.ref b325), (.ref b302)]))
        refine own_callV X335 hx hby hZ (by exact hml) hown (own_w hw 70 rfl) (own_w hw 71 rfl) (own_w hw 73 rfl) (own_w hw 72 rfl) (own_w hw 3 rfl) (own_w hw 74 rfl) (by decide) rfl 0 (by decide) (by decide) (by decide) (by decide) (argsL := [(.ref b325)]) (rest := []) (lenOf pd__Ljava_lang_Object__Z rfl) rfl (Nat.le_of_eq rfl) E338_b302 (rmEq_2 l Z a0 hw b302 b325 bb305 bb335 cs (nar .byte (y2.toInt8.toInt32)) (nar .byte (y3.toInt8.toInt32)) T335.heap hcs ne_b302_b325 S336_COMPACT_STRINGS E338_b302 F340_coder F339_value V341_bb305 E335 FC335 FV335 V335) at_216 (pc' := 219) rfl ?_
        intro v345 T345 L345 X345 hQ345
        obtain ⟨rfl, rfl, e345⟩ := hQ345
        rw [List.append_nil] at X345
        replace e345 : T345.heap = T335.heap := e345
        show GoP p e below Φ (T345.setTop (mkF m 219 #[.val (.int p1), .val (.int p2), .val (.int p3), .val (.int p4), .val (.int (0 : Int32)), .val (.int (0 : Int32)), .val (.int (1 : Int32)), .val (.int (2 : Int32)), .val (.ref b294), .val (.ref b302), .val .null, .val (.ref b308), .val (.ref b302)] [(.int (1 : Int32))]))
        refine own_ifN X345 hx hby at_219 ((if0 _ _).trans (feq (by decide)).1) (pc' := 222) rfl ?_
        refine own_iconst X345 hx hby at_222 (v := (1 : Int32)) rfl (pc' := 223) rfl ?_
        refine own_goto X345 hx hby at_223 (by decide) (pc' := 227) (by decide) ?_
        exact own_retN X345 hx hby (fin _ _ hS) hret (by simp) rfl at_227 (by decide) (by decide) ⟨⟨rfl, N335⟩, (by rw [e345]; exact hk)⟩
  · refine own_ifN X hx hby at_3 ((if0 _ _).trans (feq hc3_1).1) (pc' := 6) rfl ?_
    refine own_iconst X hx hby at_6 (v := (1 : Int32)) rfl (pc' := 7) rfl ?_
    refine own_goto X hx hby at_7 (by decide) (pc' := 11) (by decide) ?_
    refine own_istore X hx hby at_11  (Ls' := #[.val (.int p1), .val (.int p2), .val (.int p3), .val (.int p4), .val (.int (1 : Int32)), .unset, .unset, .unset, .unset, .unset, .unset, .unset, .unset]) rfl (pc' := 13) rfl ?_
    refine own_iload X hx hby at_13 rfl (pc' := 15) rfl ?_
    refine own_ifN X hx hby at_15 ((if0 _ _).trans (feq (by decide)).1) (pc' := 18) rfl ?_
    refine own_iloadN X hx hby at_18 rfl (pc' := 19) rfl ?_
    refine own_iconst X hx hby at_19 (v := (2 : Int32)) rfl (pc' := 20) rfl ?_
    refine own_iand X hx hby at_20 (pc' := 21) rfl ?_
    by_cases hc21_346 : (p1 &&& (2 : Int32)) = (0 : Int32)
    · refine own_ifY X hx hby at_21 ((if0 _ _).trans (teq hc21_346).1) (by decide) (pc' := 28) (by decide) ?_
      refine own_iconst X hx hby at_28 (v := (0 : Int32)) rfl (pc' := 29) rfl ?_
      refine own_istore X hx hby at_29  (Ls' := #[.val (.int p1), .val (.int p2), .val (.int p3), .val (.int p4), .val (.int (1 : Int32)), .val (.int (0 : Int32)), .unset, .unset, .unset, .unset, .unset, .unset, .unset]) rfl (pc' := 31) rfl ?_
      refine own_iloadN X hx hby at_31 rfl (pc' := 32) rfl ?_
      refine own_iconst X hx hby at_32 (v := (4 : Int32)) rfl (pc' := 33) rfl ?_
      refine own_iand X hx hby at_33 (pc' := 34) rfl ?_
      by_cases hc34_347 : (p1 &&& (4 : Int32)) = (0 : Int32)
      · refine own_ifY X hx hby at_34 ((if0 _ _).trans (teq hc34_347).1) (by decide) (pc' := 41) (by decide) ?_
        refine own_iconst X hx hby at_41 (v := (0 : Int32)) rfl (pc' := 42) rfl ?_
        refine own_istore X hx hby at_42  (Ls' := #[.val (.int p1), .val (.int p2), .val (.int p3), .val (.int p4), .val (.int (1 : Int32)), .val (.int (0 : Int32)), .val (.int (0 : Int32)), .unset, .unset, .unset, .unset, .unset, .unset]) rfl (pc' := 44) rfl ?_
        refine own_iloadN X hx hby at_44 rfl (pc' := 45) rfl ?_
        refine own_iconst X hx hby at_45 (v := (3 : Int32)) rfl (pc' := 46) rfl ?_
        refine own_iushr X hx hby at_46 (pc' := 47) rfl ?_
        refine own_iconst X hx hby at_47 (v := (3 : Int32)) rfl (pc' := 48) rfl ?_
        refine own_irem X hx hby at_48 (by decide) (pc' := 49) rfl ?_
        refine own_istore X hx hby at_49  (Ls' := #[.val (.int p1), .val (.int p2), .val (.int p3), .val (.int p4), .val (.int (1 : Int32)), .val (.int (0 : Int32)), .val (.int (0 : Int32)), .val (.int (((p1.toUInt32 >>> ((3 : Int32) &&& 31).toUInt32).toInt32) % (3 : Int32))), .unset, .unset, .unset, .unset, .unset]) rfl (pc' := 51) rfl ?_
        have hz := own_three p1
        generalize (((p1.toUInt32 >>> ((3 : Int32) &&& 31).toUInt32).toInt32) % (3 : Int32)) = z at hz ⊢
        rcases hz with rfl | rfl | rfl
        · refine own_iload X hx hby at_51 rfl (pc' := 53) rfl ?_
          refine own_ifN X hx hby at_53 ((if0 _ _).trans (teq (by decide)).2) (pc' := 56) rfl ?_
          refine own_iconst X hx hby at_56 (v := (0 : Int32)) rfl (pc' := 57) rfl ?_
          obtain ⟨T348, h348, k348, X348, e348, E348, A348, st348⟩ := newP X hx hZ (own_w hw 0 rfl) eT (g := (mkF m 57 #[.val (.int p1), .val (.int p2), .val (.int p3), .val (.int p4), .val (.int (1 : Int32)), .val (.int (0 : Int32)), .val (.int (0 : Int32)), .val (.int (0 : Int32)), .unset, .unset, .unset, .unset, .unset] [(.int (0 : Int32))])) rfl (hb hby at_57) rfl (by decide) (cap := 0) (by decide) (by decide) (by decide) (by decide)
          obtain ⟨b348, g348⟩ : ∃ z, z = h0.size := ⟨_, rfl⟩
          have S349_COMPACT_STRINGS := Scs.ext E348
          replace hk := Nat.le_trans hk E348.1
          have Z348 : n0 ≤ h348.size := Nat.le_trans Z0 E348.1
          have n0_b348 : n0 ≤ b348 := g348 ▸ Z0
          have O348 := O0.ext E348
          rw [← g348] at A348 st348
          refine own_step st348 ?_
          have V348 : AV Z h348 b348 .char [] := AV.new A348 (by decide)
          show GoP p e below Φ (T348.setTop (mkF m 59 #[.val (.int p1), .val (.int p2), .val (.int p3), .val (.int p4), .val (.int (1 : Int32)), .val (.int (0 : Int32)), .val (.int (0 : Int32)), .val (.int (0 : Int32)), .unset, .unset, .unset, .unset, .unset] [(.ref b348)]))
          refine own_astore X348 hx hby at_59 rfl (Ls' := #[.val (.int p1), .val (.int p2), .val (.int p3), .val (.int p4), .val (.int (1 : Int32)), .val (.int (0 : Int32)), .val (.int (0 : Int32)), .val (.int (0 : Int32)), .val (.ref b348), .unset, .unset, .unset, .unset]) rfl (pc' := 61) rfl ?_
          refine own_goto X348 hx hby at_61 (by decide) (pc' := 110) (by decide) ?_
          refine own_iload X348 hx hby at_110 rfl (pc' := 112) rfl ?_
          refine own_ifY X348 hx hby at_112 ((if0 _ _).trans (teq (by decide)).1) (by decide) (pc' := 119) (by decide) ?_
          obtain ⟨T350, h350, X350, e350, E350, A350, D350, -, st350⟩ := newO X348 hx hZ hown (own_w hw 1 rfl) (own_w hw 2 rfl) (own_w hw 3 rfl) e348 (g := (mkF m 119 #[.val (.int p1), .val (.int p2), .val (.int p3), .val (.int p4), .val (.int (1 : Int32)), .val (.int (0 : Int32)), .val (.int (0 : Int32)), .val (.int (0 : Int32)), .val (.ref b348), .unset, .unset, .unset, .unset] [])) rfl (hb hby at_119) (by decide) (by decide)
          obtain ⟨b350, g350⟩ : ∃ z, z = h348.size := ⟨_, rfl⟩
          have ne_b348_b350 : b348 ≠ b350 := Nat.ne_of_lt (g350 ▸ V348.lt)
          have S351_COMPACT_STRINGS := S349_COMPACT_STRINGS.ext E350
          have V352_b348 := V348.ext E350
          replace hk := Nat.le_trans hk E350.1
          have Z350 : n0 ≤ h350.size := Nat.le_trans Z348 E350.1
          have n0_b350 : n0 ≤ b350 := g350 ▸ Z348
          have O350 := O348.ext E350
          rw [← g350] at A350 D350 st350
          refine own_step st350 ?_
          have F350_value : Fld Z h350 b350 "java/lang/String" "value" "[B" .null := D350 (Or.inr (own_w hw 16 rfl)) (ty := (.array .byte)) (by decide)
          have F350_coder : Fld Z h350 b350 "java/lang/String" "coder" "B" (.int (0 : Int32)) := D350 (Or.inr (own_w hw 17 rfl)) (ty := .byte) (by decide)
          show GoP p e below Φ (T350.setTop (mkF m 122 #[.val (.int p1), .val (.int p2), .val (.int p3), .val (.int p4), .val (.int (1 : Int32)), .val (.int (0 : Int32)), .val (.int (0 : Int32)), .val (.int (0 : Int32)), .val (.ref b348), .unset, .unset, .unset, .unset] [(.ref b350)]))
          refine own_dup X350 hx hby at_122 rfl (pc' := 123) rfl ?_
          refine own_aload X350 hx hby at_123 rfl rfl (pc' := 125) rfl ?_
          refine own_callIX X350 hx hby hZ (by exact hml) hown rfl (own_w hw 4 rfl) (own_w hw 5 rfl) (own_w hw 3 rfl) (own_w hw 6 rfl) (by decide) e350 1 (by decide) (by decide) (by decide) (by decide) (argsL := [(.ref b348)]) (rest := [(.ref b350)]) (lenOf pd___C_V rfl) rfl (Nat.le_of_eq rfl) (rmI1_0 l Z a0 hw b350 b348 n0 h350 n0_b350 Z350 O350.2 hh hcw A350 F350_coder F350_value V352_b348) at_125 (pc' := 128) rfl hS hk own_litS_stays (Or.inl hPv) ?_
          clear hS hk hZ hown
          intro v353 T353 L353 X353 hS hk hZ hown hge353 hQ353
          obtain ⟨rfl, Nq353, K353, ⟨aL353, bL353, LL353, EL353, CL353, VL353, BL353⟩, bb353, E353, FC353, FV353, V353⟩ := hQ353
          have S354_COMPACT_STRINGS := own_stakeep S351_COMPACT_STRINGS K353 (allS (own_plainE A350) all0)
          have V355_b348 := V352_b348.keep K353 (ninS ne_b348_b350 nin0)
          have N353 := Fr.app N0 Nq353
          have O353 := O350.keep K353 (allS n0_b350 all0)
          have Z353 : n0 ≤ T353.heap.size := Nat.le_trans Z350 K353.1
          show GoP p e below Φ (T353.setTop (mkF m 128 #[.val (.int p1), .val (.int p2), .val (.int p3), .val (.int p4), .val (.int (1 : Int32)), .val (.int (0 : Int32)), .val (.int (0 : Int32)), .val (.int (0 : Int32)), .val (.ref b348), .unset, .unset, .unset, .unset] [(.ref b350)]))
          obtain ⟨aL, eaL⟩ : ∃ q, q = aL353 := ⟨_, rfl⟩
          obtain ⟨bL, ebL⟩ : ∃ q, q = bL353 := ⟨_, rfl⟩
          rw [← eaL] at LL353 EL353 CL353 VL353
          rw [← ebL] at VL353 BL353
          have LL := LL353
          refine own_astore X353 hx hby at_128 rfl (Ls' := #[.val (.int p1), .val (.int p2), .val (.int p3), .val (.int p4), .val (.int (1 : Int32)), .val (.int (0 : Int32)), .val (.int (0 : Int32)), .val (.int (0 : Int32)), .val (.ref b348), .val (.ref b350), .unset, .unset, .unset]) rfl (pc' := 130) rfl ?_
          refine own_iload X353 hx hby at_130 rfl (pc' := 132) rfl ?_
          refine own_ifY X353 hx hby at_132 ((if0 _ _).trans (teq (by decide)).1) (by decide) (pc' := 139) (by decide) ?_
          refine own_iloadN X353 hx hby at_139 rfl (pc' := 140) rfl ?_
          refine own_sipush X353 hx hby at_140 (v := (255 : Int32)) rfl (pc' := 143) rfl ?_
          refine own_iand X353 hx hby at_143 (pc' := 144) rfl ?_
          refine own_i2c X353 hx hby at_144 (pc' := 145) rfl ?_
          refine own_callS X353 hx hby hZ (by exact hml) hown (own_w hw 22 rfl) (own_w hw 23 rfl) (own_w hw 3 rfl) (own_w hw 24 rfl) (by decide) rfl 0 (by decide) (by decide) (by decide) (by decide) (argsL := [(.int ((p4 &&& (255 : Int32)).toUInt32.toUInt16.toUInt32.toInt32))]) (rest := []) (lenOf pd__C_Ljava_lang_String_ rfl) rfl (rmVO l Z a0 hw ((p4 &&& (255 : Int32)).toUInt32.toUInt16.toUInt32.toInt32) cs n0 T353.heap (own_chr1 p4) hcs Z353 S354_COMPACT_STRINGS) (Nat.le_of_eq rfl) at_145 (pc' := 148) rfl ?_
          intro v356 T356 L356 X356 hQ356
          obtain ⟨ri356, rfl, Nq356, K356, sr356⟩ := hQ356
          have S357_COMPACT_STRINGS := own_stakeep S354_COMPACT_STRINGS K356 all0
          have V358_b348 := V355_b348.keep K356 nin0
          have E359_b350 := E353.keep K356
          have F360_value := FV353.keep K356 nin0
          have F361_coder := FC353.keep K356 nin0
          have V362_bb353 := V353.keep K356 nin0
          have E363_aL := EL353.keep K356
          have F364_coder := CL353.keep K356 nin0
          have F365_value := VL353.keep K356 nin0
          have V366_bL := BL353.keep K356 nin0
          have N356 := Fr.app N353 Nq356
          have O356 := O353.keep K356 all0
          have Z356 : n0 ≤ T356.heap.size := Nat.le_trans Z353 K356.1
          replace hk := Nat.le_trans hk K356.1
          show GoP p e below Φ (T356.setTop (mkF m 148 #[.val (.int p1), .val (.int p2), .val (.int p3), .val (.int p4), .val (.int (1 : Int32)), .val (.int (0 : Int32)), .val (.int (0 : Int32)), .val (.int (0 : Int32)), .val (.ref b348), .val (.ref b350), .unset, .unset, .unset] [(.ref ri356)]))
          refine own_astore X356 hx hby at_148 rfl (Ls' := #[.val (.int p1), .val (.int p2), .val (.int p3), .val (.int p4), .val (.int (1 : Int32)), .val (.int (0 : Int32)), .val (.int (0 : Int32)), .val (.int (0 : Int32)), .val (.ref b348), .val (.ref b350), .val (.ref ri356), .unset, .unset]) rfl (pc' := 150) rfl ?_
          obtain ⟨T367, h367, X367, e367, E367, A367, D367, -, st367⟩ := newO X356 hx hZ hown (own_w hw 37 rfl) (own_w hw 38 rfl) (own_w hw 39 rfl) rfl (g := (mkF m 150 #[.val (.int p1), .val (.int p2), .val (.int p3), .val (.int p4), .val (.int (1 : Int32)), .val (.int (0 : Int32)), .val (.int (0 : Int32)), .val (.int (0 : Int32)), .val (.ref b348), .val (.ref b350), .val (.ref ri356), .unset, .unset] [])) rfl (hb hby at_150) (by decide) (by decide)
          obtain ⟨b367, g367⟩ : ∃ z, z = T356.heap.size := ⟨_, rfl⟩
          have ne_b348_b367 : b348 ≠ b367 := Nat.ne_of_lt (g367 ▸ V358_b348.lt)
          have ne_b350_b367 : b350 ≠ b367 := Nat.ne_of_lt (g367 ▸ E359_b350.lt)
          have ne_bb353_b367 : bb353 ≠ b367 := Nat.ne_of_lt (g367 ▸ V362_bb353.lt)
          have ne_aL_b367 : aL ≠ b367 := Nat.ne_of_lt (g367 ▸ E363_aL.lt)
          have ne_bL_b367 : bL ≠ b367 := Nat.ne_of_lt (g367 ▸ V366_bL.lt)
          have S368_COMPACT_STRINGS := S357_COMPACT_STRINGS.ext E367
          have V369_b348 := V358_b348.ext E367
          have E370_b350 := E359_b350.ext E367
          have F371_value := F360_value.ext E367
          have F372_coder := F361_coder.ext E367
          have V373_bb353 := V362_bb353.ext E367
          have E374_aL := E363_aL.ext E367
          have F375_coder := F364_coder.ext E367
          have F376_value := F365_value.ext E367
          have V377_bL := V366_bL.ext E367
          replace hk := Nat.le_trans hk E367.1
          have Z367 : n0 ≤ h367.size := Nat.le_trans Z356 E367.1
          have n0_b367 : n0 ≤ b367 := g367 ▸ Z356
          have O367 := O356.ext E367
          rw [← g367] at A367 D367 st367
          refine own_step st367 ?_
          have F367_id : Fld Z h367 b367 "com/example/tracemass/tracemass/nets/PetriNet$TransitionNode" "id" "Ljava/lang/String;" .null := D367 (Or.inr (own_w hw 50 rfl)) (ty := (.object "java/lang/String")) (by decide)
          have F367_name : Fld Z h367 b367 "com/example/tracemass/tracemass/nets/PetriNet$TransitionNode" "name" "Ljava/lang/String;" .null := D367 (Or.inr (own_w hw 52 rfl)) (ty := (.object "java/lang/String")) (by decide)
          have F367_silent : Fld Z h367 b367 "com/example/tracemass/tracemass/nets/PetriNet$TransitionNode" "silent" "Z" (.int (0 : Int32)) := D367 (Or.inr (own_w hw 54 rfl)) (ty := .boolean) (by decide)
          show GoP p e below Φ (T367.setTop (mkF m 153 #[.val (.int p1), .val (.int p2), .val (.int p3), .val (.int p4), .val (.int (1 : Int32)), .val (.int (0 : Int32)), .val (.int (0 : Int32)), .val (.int (0 : Int32)), .val (.ref b348), .val (.ref b350), .val (.ref ri356), .unset, .unset] [(.ref b367)]))
          refine own_dup X367 hx hby at_153 rfl (pc' := 154) rfl ?_
          refine own_aload X367 hx hby at_154 rfl rfl (pc' := 156) rfl ?_
          refine own_aload X367 hx hby at_156 rfl rfl (pc' := 158) rfl ?_
          refine own_iload X367 hx hby at_158 rfl (pc' := 160) rfl ?_
          refine own_callI X367 hx hby hZ (by exact hml) hown rfl (own_w hw 40 rfl) (own_w hw 41 rfl) (own_w hw 39 rfl) (own_w hw 42 rfl) (by decide) e367 1 (by decide) (by decide) (by decide) (by decide) (argsL := [(.ref ri356), (.ref b350), (.int (1 : Int32))]) (rest := [(.ref b367)]) (lenOf pd__Ljava_lang_String_Ljava_lang_String_Z_V rfl) rfl (Nat.le_of_eq rfl) (rmT_1RR l Z a0 hw b367 ri356 b350 n0 h367 n0_b367 A367 F367_id F367_name F367_silent) at_160 (pc' := 163) rfl ?_
          intro v378 T378 L378 X378 hQ378
          obtain ⟨rfl, Nq378, K378, E378, FN378, FS378⟩ := hQ378
          have S379_COMPACT_STRINGS := own_stakeep S368_COMPACT_STRINGS K378 (allS (own_plainE A367) all0)
          have V380_b348 := V369_b348.keep K378 (ninS ne_b348_b367 nin0)
          have E381_b350 := E370_b350.keep K378
          have F382_value := F371_value.keep K378 (ninS ne_b350_b367 nin0)
          have F383_coder := F372_coder.keep K378 (ninS ne_b350_b367 nin0)
          have V384_bb353 := V373_bb353.keep K378 (ninS ne_bb353_b367 nin0)
          have E385_aL := E374_aL.keep K378
          have F386_coder := F375_coder.keep K378 (ninS ne_aL_b367 nin0)
          have F387_value := F376_value.keep K378 (ninS ne_aL_b367 nin0)
          have V388_bL := V377_bL.keep K378 (ninS ne_bL_b367 nin0)
          have N378 := Fr.app N356 Nq378
          have O378 := O367.keep K378 (allS n0_b367 all0)
          have Z378 : n0 ≤ T378.heap.size := Nat.le_trans Z367 K378.1
          replace hk := Nat.le_trans hk K378.1
          show GoP p e below Φ (T378.setTop (mkF m 163 #[.val (.int p1), .val (.int p2), .val (.int p3), .val (.int p4), .val (.int (1 : Int32)), .val (.int (0 : Int32)), .val (.int (0 : Int32)), .val (.int (0 : Int32)), .val (.ref b348), .val (.ref b350), .val (.ref ri356), .unset, .unset] [(.ref b367)]))
          refine own_astore X378 hx hby at_163 rfl (Ls' := #[.val (.int p1), .val (.int p2), .val (.int p3), .val (.int p4), .val (.int (1 : Int32)), .val (.int (0 : Int32)), .val (.int (0 : Int32)), .val (.int (0 : Int32)), .val (.ref b348), .val (.ref b350), .val (.ref ri356), .val (.ref b367), .unset]) rfl (pc' := 165) rfl ?_
          refine own_aload X378 hx hby at_165 rfl rfl (pc' := 167) rfl ?_
          refine own_callV X378 hx hby hZ (by exact hml) hown (own_w hw 55 rfl) (own_w hw 56 rfl) (own_w hw 58 rfl) (own_w hw 57 rfl) (own_w hw 39 rfl) (own_w hw 59 rfl) (by decide) rfl 0 (by decide) (by decide) (by decide) (by decide) (argsL := []) (rest := []) (lenOf pd___Ljava_lang_String_ rfl) rfl (Nat.le_of_eq rfl) E378 (rmL1 l Z a0 hw b367 T378.heap FS378) at_167 (pc' := 170) rfl ?_
          intro v390 T390 L390 X390 hQ390
          obtain ⟨rfl, rfl, e390⟩ := hQ390
          rw [List.append_nil] at X390
          replace e390 : T390.heap = T378.heap := e390
          show GoP p e below Φ (T390.setTop (mkF m 170 #[.val (.int p1), .val (.int p2), .val (.int p3), .val (.int p4), .val (.int (1 : Int32)), .val (.int (0 : Int32)), .val (.int (0 : Int32)), .val (.int (0 : Int32)), .val (.ref b348), .val (.ref b350), .val (.ref ri356), .val (.ref b367), .unset] [.null]))
          refine own_astore X390 hx hby at_170 rfl (Ls' := #[.val (.int p1), .val (.int p2), .val (.int p3), .val (.int p4), .val (.int (1 : Int32)), .val (.int (0 : Int32)), .val (.int (0 : Int32)), .val (.int (0 : Int32)), .val (.ref b348), .val (.ref b350), .val (.ref ri356), .val (.ref b367), .val .null]) rfl (pc' := 172) rfl ?_
          refine own_iload X390 hx hby at_172 rfl (pc' := 174) rfl ?_
          refine own_ifN X390 hx hby at_174 ((if0 _ _).trans (feq (by decide)).1) (pc' := 177) rfl ?_
          refine own_aload X390 hx hby at_177 rfl rfl (pc' := 179) rfl ?_
          refine own_ifnonnullN X390 hx hby at_179 (pc' := 182) rfl ?_
          refine own_iconst X390 hx hby at_182 (v := (1 : Int32)) rfl (pc' := 183) rfl ?_
          refine own_goto X390 hx hby at_183 (by decide) (pc' := 187) (by decide) ?_
          exact own_retN X390 hx hby (fin _ _ hS) hret (by simp) rfl at_187 (by decide) (by decide) ⟨⟨rfl, N378⟩, (by rw [e390]; exact hk)⟩
        · refine own_iload X hx hby at_51 rfl (pc' := 53) rfl ?_
          refine own_ifY X hx hby at_53 ((if0 _ _).trans (feq (by decide)).2) (by decide) (pc' := 64) (by decide) ?_
          refine own_iload X hx hby at_64 rfl (pc' := 66) rfl ?_
          refine own_iconst X hx hby at_66 (v := (1 : Int32)) rfl (pc' := 67) rfl ?_
          refine own_icmpN X hx hby at_67 (teq (by decide)).2 (pc' := 70) rfl ?_
          refine own_iconst X hx hby at_70 (v := (1 : Int32)) rfl (pc' := 71) rfl ?_
          obtain ⟨T391, h391, k391, X391, e391, E391, A391, st391⟩ := newP X hx hZ (own_w hw 0 rfl) eT (g := (mkF m 71 #[.val (.int p1), .val (.int p2), .val (.int p3), .val (.int p4), .val (.int (1 : Int32)), .val (.int (0 : Int32)), .val (.int (0 : Int32)), .val (.int (1 : Int32)), .unset, .unset, .unset, .unset, .unset] [(.int (1 : Int32))])) rfl (hb hby at_71) rfl (by decide) (cap := 1) (by decide) (by decide) (by decide) (by decide)
          obtain ⟨b391, g391⟩ : ∃ z, z = h0.size := ⟨_, rfl⟩
          have S392_COMPACT_STRINGS := Scs.ext E391
          replace hk := Nat.le_trans hk E391.1
          have Z391 : n0 ≤ h391.size := Nat.le_trans Z0 E391.1
          have n0_b391 : n0 ≤ b391 := g391 ▸ Z0
          have O391 := O0.ext E391
          rw [← g391] at A391 st391
          refine own_step st391 ?_
          have V391 : AV Z h391 b391 .char [(.int (0 : Int32))] := AV.new A391 (by decide)
          show GoP p e below Φ (T391.setTop (mkF m 73 #[.val (.int p1), .val (.int p2), .val (.int p3), .val (.int p4), .val (.int (1 : Int32)), .val (.int (0 : Int32)), .val (.int (0 : Int32)), .val (.int (1 : Int32)), .unset, .unset, .unset, .unset, .unset] [(.ref b391)]))
          refine own_dup X391 hx hby at_73 rfl (pc' := 74) rfl ?_
          refine own_iconst X391 hx hby at_74 (v := (0 : Int32)) rfl (pc' := 75) rfl ?_
          refine own_iloadN X391 hx hby at_75 rfl (pc' := 76) rfl ?_
          refine own_sipush X391 hx hby at_76 (v := (255 : Int32)) rfl (pc' := 79) rfl ?_
          refine own_iand X391 hx hby at_79 (pc' := 80) rfl ?_
          refine own_i2c X391 hx hby at_80 (pc' := 81) rfl ?_
          obtain ⟨y2, ey2, hy2⟩ : ∃ x : Int32, x = (nar .char ((p2 &&& (255 : Int32)).toUInt32.toUInt16.toUInt32.toInt32)) ∧ ¬ (255 : Int32) < x := ⟨_, rfl, own_chr p2⟩
          refine own_castore X391 hx hby hZ e391 V391 (by decide) (Nat.le_of_ble_eq_true rfl) at_81 (pc' := 82) rfl ?_
          intro T393 h393 X393 e393 W393 V393
          replace V393 : AV Z h393 b391 .char [(.int (nar .char ((p2 &&& (255 : Int32)).toUInt32.toUInt16.toUInt32.toInt32)))] := V393
          have S394_COMPACT_STRINGS := S392_COMPACT_STRINGS.wr W393
          replace hk := W393.size.symm ▸ hk
          have Z393 : n0 ≤ h393.size := by rw [W393.size]; exact Z391
          have O393 := O391.wr W393 n0_b391
          have N393 := Fr.snoc X393 N0 n0_b391
          rw [← ey2] at V393
          refine own_astore X393 hx hby at_82 rfl (Ls' := #[.val (.int p1), .val (.int p2), .val (.int p3), .val (.int p4), .val (.int (1 : Int32)), .val (.int (0 : Int32)), .val (.int (0 : Int32)), .val (.int (1 : Int32)), .val (.ref b391), .unset, .unset, .unset, .unset]) rfl (pc' := 84) rfl ?_
          refine own_goto X393 hx hby at_84 (by decide) (pc' := 110) (by decide) ?_
          refine own_iload X393 hx hby at_110 rfl (pc' := 112) rfl ?_
          refine own_ifY X393 hx hby at_112 ((if0 _ _).trans (teq (by decide)).1) (by decide) (pc' := 119) (by decide) ?_
          obtain ⟨T396, h396, X396, e396, E396, A396, D396, -, st396⟩ := newO X393 hx hZ hown (own_w hw 1 rfl) (own_w hw 2 rfl) (own_w hw 3 rfl) e393 (g := (mkF m 119 #[.val (.int p1), .val (.int p2), .val (.int p3), .val (.int p4), .val (.int (1 : Int32)), .val (.int (0 : Int32)), .val (.int (0 : Int32)), .val (.int (1 : Int32)), .val (.ref b391), .unset, .unset, .unset, .unset] [])) rfl (hb hby at_119) (by decide) (by decide)
          obtain ⟨b396, g396⟩ : ∃ z, z = h393.size := ⟨_, rfl⟩
          have ne_b391_b396 : b391 ≠ b396 := Nat.ne_of_lt (g396 ▸ V393.lt)
          have S397_COMPACT_STRINGS := S394_COMPACT_STRINGS.ext E396
          have V398_b391 := V393.ext E396
          replace hk := Nat.le_trans hk E396.1
          have Z396 : n0 ≤ h396.size := Nat.le_trans Z393 E396.1
          have n0_b396 : n0 ≤ b396 := g396 ▸ Z393
          have O396 := O393.ext E396
          rw [← g396] at A396 D396 st396
          refine own_step st396 ?_
          have F396_value : Fld Z h396 b396 "java/lang/String" "value" "[B" .null := D396 (Or.inr (own_w hw 16 rfl)) (ty := (.array .byte)) (by decide)
          have F396_coder : Fld Z h396 b396 "java/lang/String" "coder" "B" (.int (0 : Int32)) := D396 (Or.inr (own_w hw 17 rfl)) (ty := .byte) (by decide)
          show GoP p e below Φ (T396.setTop (mkF m 122 #[.val (.int p1), .val (.int p2), .val (.int p3), .val (.int p4), .val (.int (1 : Int32)), .val (.int (0 : Int32)), .val (.int (0 : Int32)), .val (.int (1 : Int32)), .val (.ref b391), .unset, .unset, .unset, .unset] [(.ref b396)]))
          refine own_dup X396 hx hby at_122 rfl (pc' := 123) rfl ?_
          refine own_aload X396 hx hby at_123 rfl rfl (pc' := 125) rfl ?_
          refine own_callI X396 hx hby hZ (by exact hml) hown rfl (own_w hw 4 rfl) (own_w hw 5 rfl) (own_w hw 3 rfl) (own_w hw 6 rfl) (by decide) e396 1 (by decide) (by decide) (by decide) (by decide) (argsL := [(.ref b391)]) (rest := [(.ref b396)]) (lenOf pd___C_V rfl) rfl (Nat.le_of_eq rfl) (rmI1_1 l Z a0 hw b396 b391 cs y2 n0 h396 hcs hy2 n0_b396 Z396 (Ne.symm ne_b391_b396) S397_COMPACT_STRINGS A396 F396_coder F396_value V398_b391) at_125 (pc' := 128) rfl ?_
          intro v399 T399 L399 X399 hQ399
          obtain ⟨rfl, Nq399, K399, bb399, sb399, E399, FC399, FV399, V399⟩ := hQ399
          have ne_b391_bb399 : b391 ≠ bb399 := Nat.ne_of_lt (Nat.lt_of_lt_of_le V398_b391.lt sb399)
          have ne_b396_bb399 : b396 ≠ bb399 := Nat.ne_of_lt (Nat.lt_of_lt_of_le A396.lt sb399)
          have S400_COMPACT_STRINGS := own_stakeep S397_COMPACT_STRINGS K399 (allS (own_plainE A396) all0)
          have V401_b391 := V398_b391.keep K399 (ninS ne_b391_b396 nin0)
          have N399 := Fr.app N393 Nq399
          have O399 := O396.keep K399 (allS n0_b396 all0)
          have Z399 : n0 ≤ T399.heap.size := Nat.le_trans Z396 K399.1
          replace hk := Nat.le_trans hk K399.1
          show GoP p e below Φ (T399.setTop (mkF m 128 #[.val (.int p1), .val (.int p2), .val (.int p3), .val (.int p4), .val (.int (1 : Int32)), .val (.int (0 : Int32)), .val (.int (0 : Int32)), .val (.int (1 : Int32)), .val (.ref b391), .unset, .unset, .unset, .unset] [(.ref b396)]))
          refine own_astore X399 hx hby at_128 rfl (Ls' := #[.val (.int p1), .val (.int p2), .val (.int p3), .val (.int p4), .val (.int (1 : Int32)), .val (.int (0 : Int32)), .val (.int (0 : Int32)), .val (.int (1 : Int32)), .val (.ref b391), .val (.ref b396), .unset, .unset, .unset]) rfl (pc' := 130) rfl ?_
          refine own_iload X399 hx hby at_130 rfl (pc' := 132) rfl ?_
          refine own_ifY X399 hx hby at_132 ((if0 _ _).trans (teq (by decide)).1) (by decide) (pc' := 139) (by decide) ?_
          refine own_iloadN X399 hx hby at_139 rfl (pc' := 140) rfl ?_
          refine own_sipush X399 hx hby at_140 (v := (255 : Int32)) rfl (pc' := 143) rfl ?_
          refine own_iand X399 hx hby at_143 (pc' := 144) rfl ?_
          refine own_i2c X399 hx hby at_144 (pc' := 145) rfl ?_
          refine own_callS X399 hx hby hZ (by exact hml) hown (own_w hw 22 rfl) (own_w hw 23 rfl) (own_w hw 3 rfl) (own_w hw 24 rfl) (by decide) rfl 0 (by decide) (by decide) (by decide) (by decide) (argsL := [(.int ((p4 &&& (255 : Int32)).toUInt32.toUInt16.toUInt32.toInt32))]) (rest := []) (lenOf pd__C_Ljava_lang_String_ rfl) rfl (rmVO l Z a0 hw ((p4 &&& (255 : Int32)).toUInt32.toUInt16.toUInt32.toInt32) cs n0 T399.heap (own_chr1 p4) hcs Z399 S400_COMPACT_STRINGS) (Nat.le_of_eq rfl) at_145 (pc' := 148) rfl ?_
          intro v402 T402 L402 X402 hQ402
          obtain ⟨ri402, rfl, Nq402, K402, sr402⟩ := hQ402
          have S403_COMPACT_STRINGS := own_stakeep S400_COMPACT_STRINGS K402 all0
          have V404_b391 := V401_b391.keep K402 nin0
          have E405_b396 := E399.keep K402
          have F406_value := FV399.keep K402 nin0
          have F407_coder := FC399.keep K402 nin0
          have V408_bb399 := V399.keep K402 nin0
          have N402 := Fr.app N399 Nq402
          have O402 := O399.keep K402 all0
          have Z402 : n0 ≤ T402.heap.size := Nat.le_trans Z399 K402.1
          replace hk := Nat.le_trans hk K402.1
          show GoP p e below Φ (T402.setTop (mkF m 148 #[.val (.int p1), .val (.int p2), .val (.int p3), .val (.int p4), .val (.int (1 : Int32)), .val (.int (0 : Int32)), .val (.int (0 : Int32)), .val (.int (1 : Int32)), .val (.ref b391), .val (.ref b396), .unset, .unset, .unset] [(.ref ri402)]))
          refine own_astore X402 hx hby at_148 rfl (Ls' := #[.val (.int p1), .val (.int p2), .val (.int p3), .val (.int p4), .val (.int (1 : Int32)), .val (.int (0 : Int32)), .val (.int (0 : Int32)), .val (.int (1 : Int32)), .val (.ref b391), .val (.ref b396), .val (.ref ri402), .unset, .unset]) rfl (pc' := 150) rfl ?_
          obtain ⟨T409, h409, X409, e409, E409, A409, D409, -, st409⟩ := newO X402 hx hZ hown (own_w hw 37 rfl) (own_w hw 38 rfl) (own_w hw 39 rfl) rfl (g := (mkF m 150 #[.val (.int p1), .val (.int p2), .val (.int p3), .val (.int p4), .val (.int (1 : Int32)), .val (.int (0 : Int32)), .val (.int (0 : Int32)), .val (.int (1 : Int32)), .val (.ref b391), .val (.ref b396), .val (.ref ri402), .unset, .unset] [])) rfl (hb hby at_150) (by decide) (by decide)
          obtain ⟨b409, g409⟩ : ∃ z, z = T402.heap.size := ⟨_, rfl⟩
          have ne_b391_b409 : b391 ≠ b409 := Nat.ne_of_lt (g409 ▸ V404_b391.lt)
          have ne_b396_b409 : b396 ≠ b409 := Nat.ne_of_lt (g409 ▸ E405_b396.lt)
          have ne_bb399_b409 : bb399 ≠ b409 := Nat.ne_of_lt (g409 ▸ V408_bb399.lt)
          have S410_COMPACT_STRINGS := S403_COMPACT_STRINGS.ext E409
          have V411_b391 := V404_b391.ext E409
          have E412_b396 := E405_b396.ext E409
          have F413_value := F406_value.ext E409
          have F414_coder := F407_coder.ext E409
          have V415_bb399 := V408_bb399.ext E409
          replace hk := Nat.le_trans hk E409.1
          have Z409 : n0 ≤ h409.size := Nat.le_trans Z402 E409.1
          have n0_b409 : n0 ≤ b409 := g409 ▸ Z402
          have O409 := O402.ext E409
          rw [← g409] at A409 D409 st409
          refine own_step st409 ?_
          have F409_id : Fld Z h409 b409 "com/example/tracemass/tracemass/nets/PetriNet$TransitionNode" "id" "Ljava/lang/String;" .null := D409 (Or.inr (own_w hw 50 rfl)) (ty := (.object "java/lang/String")) (by decide)
          have F409_name : Fld Z h409 b409 "com/example/tracemass/tracemass/nets/PetriNet$TransitionNode" "name" "Ljava/lang/String;" .null := D409 (Or.inr (own_w hw 52 rfl)) (ty := (.object "java/lang/String")) (by decide)
          have F409_silent : Fld Z h409 b409 "com/example/tracemass/tracemass/nets/PetriNet$TransitionNode" "silent" "Z" (.int (0 : Int32)) := D409 (Or.inr (own_w hw 54 rfl)) (ty := .boolean) (by decide)
          show GoP p e below Φ (T409.setTop (mkF m 153 #[.val (.int p1), .val (.int p2), .val (.int p3), .val (.int p4), .val (.int (1 : Int32)), .val (.int (0 : Int32)), .val (.int (0 : Int32)), .val (.int (1 : Int32)), .val (.ref b391), .val (.ref b396), .val (.ref ri402), .unset, .unset] [(.ref b409)]))
          refine own_dup X409 hx hby at_153 rfl (pc' := 154) rfl ?_
          refine own_aload X409 hx hby at_154 rfl rfl (pc' := 156) rfl ?_
          refine own_aload X409 hx hby at_156 rfl rfl (pc' := 158) rfl ?_
          refine own_iload X409 hx hby at_158 rfl (pc' := 160) rfl ?_
          refine own_callI X409 hx hby hZ (by exact hml) hown rfl (own_w hw 40 rfl) (own_w hw 41 rfl) (own_w hw 39 rfl) (own_w hw 42 rfl) (by decide) e409 1 (by decide) (by decide) (by decide) (by decide) (argsL := [(.ref ri402), (.ref b396), (.int (1 : Int32))]) (rest := [(.ref b409)]) (lenOf pd__Ljava_lang_String_Ljava_lang_String_Z_V rfl) rfl (Nat.le_of_eq rfl) (rmT_1RR l Z a0 hw b409 ri402 b396 n0 h409 n0_b409 A409 F409_id F409_name F409_silent) at_160 (pc' := 163) rfl ?_
          intro v416 T416 L416 X416 hQ416
          obtain ⟨rfl, Nq416, K416, E416, FN416, FS416⟩ := hQ416
          have S417_COMPACT_STRINGS := own_stakeep S410_COMPACT_STRINGS K416 (allS (own_plainE A409) all0)
          have V418_b391 := V411_b391.keep K416 (ninS ne_b391_b409 nin0)
          have E419_b396 := E412_b396.keep K416
          have F420_value := F413_value.keep K416 (ninS ne_b396_b409 nin0)
          have F421_coder := F414_coder.keep K416 (ninS ne_b396_b409 nin0)
          have V422_bb399 := V415_bb399.keep K416 (ninS ne_bb399_b409 nin0)
          have N416 := Fr.app N402 Nq416
          have O416 := O409.keep K416 (allS n0_b409 all0)
          have Z416 : n0 ≤ T416.heap.size := Nat.le_trans Z409 K416.1
          replace hk := Nat.le_trans hk K416.1
          show GoP p e below Φ (T416.setTop (mkF m 163 #[.val (.int p1), .val (.int p2), .val (.int p3), .val (.int p4), .val (.int (1 : Int32)), .val (.int (0 : Int32)), .val (.int (0 : Int32)), .val (.int (1 : Int32)), .val (.ref b391), .val (.ref b396), .val (.ref ri402), .unset, .unset] [(.ref b409)]))
          refine own_astore X416 hx hby at_163 rfl (Ls' := #[.val (.int p1), .val (.int p2), .val (.int p3), .val (.int p4), .val (.int (1 : Int32)), .val (.int (0 : Int32)), .val (.int (0 : Int32)), .val (.int (1 : Int32)), .val (.ref b391), .val (.ref b396), .val (.ref ri402), .val (.ref b409), .unset]) rfl (pc' := 165) rfl ?_
          refine own_aload X416 hx hby at_165 rfl rfl (pc' := 167) rfl ?_
          refine own_callV X416 hx hby hZ (by exact hml) hown (own_w hw 55 rfl) (own_w hw 56 rfl) (own_w hw 58 rfl) (own_w hw 57 rfl) (own_w hw 39 rfl) (own_w hw 59 rfl) (by decide) rfl 0 (by decide) (by decide) (by decide) (by decide) (argsL := []) (rest := []) (lenOf pd___Ljava_lang_String_ rfl) rfl (Nat.le_of_eq rfl) E416 (rmL1 l Z a0 hw b409 T416.heap FS416) at_167 (pc' := 170) rfl ?_
          intro v424 T424 L424 X424 hQ424
          obtain ⟨rfl, rfl, e424⟩ := hQ424
          rw [List.append_nil] at X424
          replace e424 : T424.heap = T416.heap := e424
          show GoP p e below Φ (T424.setTop (mkF m 170 #[.val (.int p1), .val (.int p2), .val (.int p3), .val (.int p4), .val (.int (1 : Int32)), .val (.int (0 : Int32)), .val (.int (0 : Int32)), .val (.int (1 : Int32)), .val (.ref b391), .val (.ref b396), .val (.ref ri402), .val (.ref b409), .unset] [.null]))
          refine own_astore X424 hx hby at_170 rfl (Ls' := #[.val (.int p1), .val (.int p2), .val (.int p3), .val (.int p4), .val (.int (1 : Int32)), .val (.int (0 : Int32)), .val (.int (0 : Int32)), .val (.int (1 : Int32)), .val (.ref b391), .val (.ref b396), .val (.ref ri402), .val (.ref b409), .val .null]) rfl (pc' := 172) rfl ?_
          refine own_iload X424 hx hby at_172 rfl (pc' := 174) rfl ?_
          refine own_ifN X424 hx hby at_174 ((if0 _ _).trans (feq (by decide)).1) (pc' := 177) rfl ?_
          refine own_aload X424 hx hby at_177 rfl rfl (pc' := 179) rfl ?_
          refine own_ifnonnullN X424 hx hby at_179 (pc' := 182) rfl ?_
          refine own_iconst X424 hx hby at_182 (v := (1 : Int32)) rfl (pc' := 183) rfl ?_
          refine own_goto X424 hx hby at_183 (by decide) (pc' := 187) (by decide) ?_
          exact own_retN X424 hx hby (fin _ _ hS) hret (by simp) rfl at_187 (by decide) (by decide) ⟨⟨rfl, N416⟩, (by rw [e424]; exact hk)⟩
        · refine own_iload X hx hby at_51 rfl (pc' := 53) rfl ?_
          refine own_ifY X hx hby at_53 ((if0 _ _).trans (feq (by decide)).2) (by decide) (pc' := 64) (by decide) ?_
          refine own_iload X hx hby at_64 rfl (pc' := 66) rfl ?_
          refine own_iconst X hx hby at_66 (v := (1 : Int32)) rfl (pc' := 67) rfl ?_
          refine own_icmpY X hx hby at_67 (feq (by decide)).2 (by decide) (pc' := 87) (by decide) ?_
          refine own_iconst X hx hby at_87 (v := (2 : Int32)) rfl (pc' := 88) rfl ?_
          obtain ⟨T425, h425, k425, X425, e425, E425, A425, st425⟩ := newP X hx hZ (own_w hw 0 rfl) eT (g := (mkF m 88 #[.val (.int p1), .val (.int p2), .val (.int p3), .val (.int p4), .val (.int (1 : Int32)), .val (.int (0 : Int32)), .val (.int (0 : Int32)), .val (.int (2 : Int32)), .unset, .unset, .unset, .unset, .unset] [(.int (2 : Int32))])) rfl (hb hby at_88) rfl (by decide) (cap := 2) (by decide) (by decide) (by decide) (by decide)
          obtain ⟨b425, g425⟩ : ∃ z, z = h0.size := ⟨_, rfl⟩
          have S426_COMPACT_STRINGS := Scs.ext E425
          replace hk := Nat.le_trans hk E425.1
          have Z425 : n0 ≤ h425.size := Nat.le_trans Z0 E425.1
          have n0_b425 : n0 ≤ b425 := g425 ▸ Z0
          have O425 := O0.ext E425
          rw [← g425] at A425 st425
          refine own_step st425 ?_
          have V425 : AV Z h425 b425 .char [(.int (0 : Int32)), (.int (0 : Int32))] := AV.new A425 (by decide)
          show GoP p e below Φ (T425.setTop (mkF m 90 #[.val (.int p1), .val (.int p2), .val (.int p3), .val (.int p4), .val (.int (1 : Int32)), .val (.int (0 : Int32)), .val (.int (0 : Int32)), .val (.int (2 : Int32)), .unset, .unset, .unset, .unset, .unset] [(.ref b425)]))
          refine own_dup X425 hx hby at_90 rfl (pc' := 91) rfl ?_
          refine own_iconst X425 hx hby at_91 (v := (0 : Int32)) rfl (pc' := 92) rfl ?_
          refine own_iloadN X425 hx hby at_92 rfl (pc' := 93) rfl ?_
          refine own_sipush X425 hx hby at_93 (v := (255 : Int32)) rfl (pc' := 96) rfl ?_
          refine own_iand X425 hx hby at_96 (pc' := 97) rfl ?_
          refine own_i2c X425 hx hby at_97 (pc' := 98) rfl ?_
          obtain ⟨y2, ey2, hy2⟩ : ∃ x : Int32, x = (nar .char ((p2 &&& (255 : Int32)).toUInt32.toUInt16.toUInt32.toInt32)) ∧ ¬ (255 : Int32) < x := ⟨_, rfl, own_chr p2⟩
          refine own_castore X425 hx hby hZ e425 V425 (by decide) (Nat.le_of_ble_eq_true rfl) at_98 (pc' := 99) rfl ?_
          intro T427 h427 X427 e427 W427 V427
          replace V427 : AV Z h427 b425 .char [(.int (nar .char ((p2 &&& (255 : Int32)).toUInt32.toUInt16.toUInt32.toInt32))), (.int (0 : Int32))] := V427
          have S428_COMPACT_STRINGS := S426_COMPACT_STRINGS.wr W427
          replace hk := W427.size.symm ▸ hk
          have Z427 : n0 ≤ h427.size := by rw [W427.size]; exact Z425
          have O427 := O425.wr W427 n0_b425
          have N427 := Fr.snoc X427 N0 n0_b425
          rw [← ey2] at V427
          refine own_dup X427 hx hby at_99 rfl (pc' := 100) rfl ?_
          refine own_iconst X427 hx hby at_100 (v := (1 : Int32)) rfl (pc' := 101) rfl ?_
          refine own_iloadN X427 hx hby at_101 rfl (pc' := 102) rfl ?_
          refine own_sipush X427 hx hby at_102 (v := (255 : Int32)) rfl (pc' := 105) rfl ?_
          refine own_iand X427 hx hby at_105 (pc' := 106) rfl ?_
          refine own_i2c X427 hx hby at_106 (pc' := 107) rfl ?_
          obtain ⟨y3, ey3, hy3⟩ : ∃ x : Int32, x = (nar .char ((p3 &&& (255 : Int32)).toUInt32.toUInt16.toUInt32.toInt32)) ∧ ¬ (255 : Int32) < x := ⟨_, rfl, own_chr p3⟩
          refine own_castore X427 hx hby hZ e427 V427 (by decide) (Nat.le_of_ble_eq_true rfl) at_107 (pc' := 108) rfl ?_
          intro T430 h430 X430 e430 W430 V430
          replace V430 : AV Z h430 b425 .char [(.int y2), (.int (nar .char ((p3 &&& (255 : Int32)).toUInt32.toUInt16.toUInt32.toInt32)))] := V430
          have S431_COMPACT_STRINGS := S428_COMPACT_STRINGS.wr W430
          replace hk := W430.size.symm ▸ hk
          have Z430 : n0 ≤ h430.size := by rw [W430.size]; exact Z427
          have O430 := O427.wr W430 n0_b425
          have N430 := Fr.snoc X430 N427 n0_b425
          rw [← ey3] at V430
          refine own_astore X430 hx hby at_108 rfl (Ls' := #[.val (.int p1), .val (.int p2), .val (.int p3), .val (.int p4), .val (.int (1 : Int32)), .val (.int (0 : Int32)), .val (.int (0 : Int32)), .val (.int (2 : Int32)), .val (.ref b425), .unset, .unset, .unset, .unset]) rfl (pc' := 110) rfl ?_
          refine own_iload X430 hx hby at_110 rfl (pc' := 112) rfl ?_
          refine own_ifY X430 hx hby at_112 ((if0 _ _).trans (teq (by decide)).1) (by decide) (pc' := 119) (by decide) ?_
          obtain ⟨T433, h433, X433, e433, E433, A433, D433, -, st433⟩ := newO X430 hx hZ hown (own_w hw 1 rfl) (own_w hw 2 rfl) (own_w hw 3 rfl) e430 (g := (mkF m 119 #[.val (.int p1), .val (.int p2), .val (.int p3), .val (.int p4), .val (.int (1 : Int32)), .val (.int (0 : Int32)), .val (.int (0 : Int32)), .val (.int (2 : Int32)), .val (.ref b425), .unset, .unset, .unset, .unset] [])) rfl (hb hby at_119) (by decide) (by decide)
          obtain ⟨b433, g433⟩ : ∃ z, z = h430.size := ⟨_, rfl⟩
          have ne_b425_b433 : b425 ≠ b433 := Nat.ne_of_lt (g433 ▸ V430.lt)
          have S434_COMPACT_STRINGS := S431_COMPACT_STRINGS.ext E433
          have V435_b425 := V430.ext E433
          replace hk := Nat.le_trans hk E433.1
          have Z433 : n0 ≤ h433.size := Nat.le_trans Z430 E433.1
          have n0_b433 : n0 ≤ b433 := g433 ▸ Z430
          have O433 := O430.ext E433
          rw [← g433] at A433 D433 st433
          refine own_step st433 ?_
          have F433_value : Fld Z h433 b433 "java/lang/String" "value" "[B" .null := D433 (Or.inr (own_w hw 16 rfl)) (ty := (.array .byte)) (by decide)
          have F433_coder : Fld Z h433 b433 "java/lang/String" "coder" "B" (.int (0 : Int32)) := D433 (Or.inr (own_w hw 17 rfl)) (ty := .byte) (by decide)
          show GoP p e below Φ (T433.setTop (mkF m 122 #[.val (.int p1), .val (.int p2), .val (.int p3), .val (.int p4), .val (.int (1 : Int32)), .val (.int (0 : Int32)), .val (.int (0 : Int32)), .val (.int (2 : Int32)), .val (.ref b425), .unset, .unset, .unset, .unset] [(.ref b433)]))
          refine own_dup X433 hx hby at_122 rfl (pc' := 123) rfl ?_
          refine own_aload X433 hx hby at_123 rfl rfl (pc' := 125) rfl ?_
          refine own_callI X433 hx hby hZ (by exact hml) hown rfl (own_w hw 4 rfl) (own_w hw 5 rfl) (own_w hw 3 rfl) (own_w hw 6 rfl) (by decide) e433 1 (by decide) (by decide) (by decide) (by decide) (argsL := [(.ref b425)]) (rest := [(.ref b433)]) (lenOf pd___C_V rfl) rfl (Nat.le_of_eq rfl) (rmI1_2 l Z a0 hw b433 b425 cs y2 y3 n0 h433 hcs hy2 hy3 n0_b433 Z433 (Ne.symm ne_b425_b433) S434_COMPACT_STRINGS A433 F433_coder F433_value V435_b425) at_125 (pc' := 128) rfl ?_
          intro v436 T436 L436 X436 hQ436
          obtain ⟨rfl, Nq436, K436, bb436, sb436, E436, FC436, FV436, V436⟩ := hQ436
          have ne_b425_bb436 : b425 ≠ bb436 := Nat.ne_of_lt (Nat.lt_of_lt_of_le V435_b425.lt sb436)
          have ne_b433_bb436 : b433 ≠ bb436 := Nat.ne_of_lt (Nat.lt_of_lt_of_le A433.lt sb436)
          have S437_COMPACT_STRINGS := own_stakeep S434_COMPACT_STRINGS K436 (allS (own_plainE A433) all0)
          have V438_b425 := V435_b425.keep K436 (ninS ne_b425_b433 nin0)
          have N436 := Fr.app N430 Nq436
          have O436 := O433.keep K436 (allS n0_b433 all0)
          have Z436 : n0 ≤ T436.heap.size := Nat.le_trans Z433 K436.1
          replace hk := Nat.le_trans hk K436.1
          show GoP p e below Φ (T436.setTop (mkF m 128 #[.val (.int p1), .val (.int p2), .val (.int p3), .val (.int p4), .val (.int (1 : Int32)), .val (.int (0 : Int32)), .val (.int (0 : Int32)), .val (.int (2 : Int32)), .val (.ref b425), .unset, .unset, .unset, .unset] [(.ref b433)]))
          refine own_astore X436 hx hby at_128 rfl (Ls' := #[.val (.int p1), .val (.int p2), .val (.int p3), .val (.int p4), .val (.int (1 : Int32)), .val (.int (0 : Int32)), .val (.int (0 : Int32)), .val (.int (2 : Int32)), .val (.ref b425), .val (.ref b433), .unset, .unset, .unset]) rfl (pc' := 130) rfl ?_
          refine own_iload X436 hx hby at_130 rfl (pc' := 132) rfl ?_
          refine own_ifY X436 hx hby at_132 ((if0 _ _).trans (teq (by decide)).1) (by decide) (pc' := 139) (by decide) ?_
          refine own_iloadN X436 hx hby at_139 rfl (pc' := 140) rfl ?_
          refine own_sipush X436 hx hby at_140 (v := (255 : Int32)) rfl (pc' := 143) rfl ?_
          refine own_iand X436 hx hby at_143 (pc' := 144) rfl ?_
          refine own_i2c X436 hx hby at_144 (pc' := 145) rfl ?_
          refine own_callS X436 hx hby hZ (by exact hml) hown (own_w hw 22 rfl) (own_w hw 23 rfl) (own_w hw 3 rfl) (own_w hw 24 rfl) (by decide) rfl 0 (by decide) (by decide) (by decide) (by decide) (argsL := [(.int ((p4 &&& (255 : Int32)).toUInt32.toUInt16.toUInt32.toInt32))]) (rest := []) (lenOf pd__C_Ljava_lang_String_ rfl) rfl (rmVO l Z a0 hw ((p4 &&& (255 : Int32)).toUInt32.toUInt16.toUInt32.toInt32) cs n0 T436.heap (own_chr1 p4) hcs Z436 S437_COMPACT_STRINGS) (Nat.le_of_eq rfl) at_145 (pc' := 148) rfl ?_
          intro v439 T439 L439 X439 hQ439
          obtain ⟨ri439, rfl, Nq439, K439, sr439⟩ := hQ439
          have S440_COMPACT_STRINGS := own_stakeep S437_COMPACT_STRINGS K439 all0
          have V441_b425 := V438_b425.keep K439 nin0
          have E442_b433 := E436.keep K439
          have F443_value := FV436.keep K439 nin0
          have F444_coder := FC436.keep K439 nin0
          have V445_bb436 := V436.keep K439 nin0
          have N439 := Fr.app N436 Nq439
          have O439 := O436.keep K439 all0
          have Z439 : n0 ≤ T439.heap.size := Nat.le_trans Z436 K439.1
          replace hk := Nat.le_trans hk K439.1
          show GoP p e below Φ (T439.setTop (mkF m 148 #[.val (.int p1), .val (.int p2), .val (.int p3), .val (.int p4), .val (.int (1 : Int32)), .val (.int (0 : Int32)), .val (.int (0 : Int32)), .val (.int (2 : Int32)), .val (.ref b425), .val (.ref b433), .unset, .unset, .unset] [(.ref ri439)]))
          refine own_astore X439 hx hby at_148 rfl (Ls' := #[.val (.int p1), .val (.int p2), .val (.int p3), .val (.int p4), .val (.int (1 : Int32)), .val (.int (0 : Int32)), .val (.int (0 : Int32)), .val (.int (2 : Int32)), .val (.ref b425), .val (.ref b433), .val (.ref ri439), .unset, .unset]) rfl (pc' := 150) rfl ?_
          obtain ⟨T446, h446, X446, e446, E446, A446, D446, -, st446⟩ := newO X439 hx hZ hown (own_w hw 37 rfl) (own_w hw 38 rfl) (own_w hw 39 rfl) rfl (g := (mkF m 150 #[.val (.int p1), .val (.int p2), .val (.int p3), .val (.int p4), .val (.int (1 : Int32)), .val (.int (0 : Int32)), .val (.int (0 : Int32)), .val (.int (2 : Int32)), .val (.ref b425), .val (.ref b433), .val (.ref ri439), .unset, .unset] [])) rfl (hb hby at_150) (by decide) (by decide)
          obtain ⟨b446, g446⟩ : ∃ z, z = T439.heap.size := ⟨_, rfl⟩
          have ne_b425_b446 : b425 ≠ b446 := Nat.ne_of_lt (g446 ▸ V441_b425.lt)
          have ne_b433_b446 : b433 ≠ b446 := Nat.ne_of_lt (g446 ▸ E442_b433.lt)
          have ne_bb436_b446 : bb436 ≠ b446 := Nat.ne_of_lt (g446 ▸ V445_bb436.lt)
          have S447_COMPACT_STRINGS := S440_COMPACT_STRINGS.ext E446
          have V448_b425 := V441_b425.ext E446
          have E449_b433 := E442_b433.ext E446
          have F450_value := F443_value.ext E446
          have F451_coder := F444_coder.ext E446
          have V452_bb436 := V445_bb436.ext E446
          replace hk := Nat.le_trans hk E446.1
          have Z446 : n0 ≤ h446.size := Nat.le_trans Z439 E446.1
          have n0_b446 : n0 ≤ b446 := g446 ▸ Z439
          have O446 := O439.ext E446
          rw [← g446] at A446 D446 st446
          refine own_step st446 ?_
          have F446_id : Fld Z h446 b446 "com/example/tracemass/tracemass/nets/PetriNet$TransitionNode" "id" "Ljava/lang/String;" .null := D446 (Or.inr (own_w hw 50 rfl)) (ty := (.object "java/lang/String")) (by decide)
          have F446_name : Fld Z h446 b446 "com/example/tracemass/tracemass/nets/PetriNet$TransitionNode" "name" "Ljava/lang/String;" .null := D446 (Or.inr (own_w hw 52 rfl)) (ty := (.object "java/lang/String")) (by decide)
          have F446_silent : Fld Z h446 b446 "com/example/tracemass/tracemass/nets/PetriNet$TransitionNode" "silent" "Z" (.int (0 : Int32)) := D446 (Or.inr (own_w hw 54 rfl)) (ty := .boolean) (by decide)
          show GoP p e below Φ (T446.setTop (mkF m 153 #[.val (.int p1), .val (.int p2), .val (.int p3), .val (.int p4), .val (.int (1 : Int32)), .val (.int (0 : Int32)), .val (.int (0 : Int32)), .val (.int (2 : Int32)), .val (.ref b425), .val (.ref b433), .val (.ref ri439), .unset, .unset] [(.ref b446)]))
          refine own_dup X446 hx hby at_153 rfl (pc' := 154) rfl ?_
          refine own_aload X446 hx hby at_154 rfl rfl (pc' := 156) rfl ?_
          refine own_aload X446 hx hby at_156 rfl rfl (pc' := 158) rfl ?_
          refine own_iload X446 hx hby at_158 rfl (pc' := 160) rfl ?_
          refine own_callI X446 hx hby hZ (by exact hml) hown rfl (own_w hw 40 rfl) (own_w hw 41 rfl) (own_w hw 39 rfl) (own_w hw 42 rfl) (by decide) e446 1 (by decide) (by decide) (by decide) (by decide) (argsL := [(.ref ri439), (.ref b433), (.int (1 : Int32))]) (rest := [(.ref b446)]) (lenOf pd__Ljava_lang_String_Ljava_lang_String_Z_V rfl) rfl (Nat.le_of_eq rfl) (rmT_1RR l Z a0 hw b446 ri439 b433 n0 h446 n0_b446 A446 F446_id F446_name F446_silent) at_160 (pc' := 163) rfl ?_
          intro v453 T453 L453 X453 hQ453
          obtain ⟨rfl, Nq453, K453, E453, FN453, FS453⟩ := hQ453
          have S454_COMPACT_STRINGS := own_stakeep S447_COMPACT_STRINGS K453 (allS (own_plainE A446) all0)
          have V455_b425 := V448_b425.keep K453 (ninS ne_b425_b446 nin0)
          have E456_b433 := E449_b433.keep K453
          have F457_value := F450_value.keep K453 (ninS ne_b433_b446 nin0)
          have F458_coder := F451_coder.keep K453 (ninS ne_b433_b446 nin0)
          have V459_bb436 := V452_bb436.keep K453 (ninS ne_bb436_b446 nin0)
          have N453 := Fr.app N439 Nq453
          have O453 := O446.keep K453 (allS n0_b446 all0)
          have Z453 : n0 ≤ T453.heap.size := Nat.le_trans Z446 K453.1
          replace hk := Nat.le_trans hk K453.1
          show GoP p e below Φ (T453.setTop (mkF m 163 #[.val (.int p1), .val (.int p2), .val (.int p3), .val (.int p4), .val (.int (1 : Int32)), .val (.int (0 : Int32)), .val (.int (0 : Int32)), .val (.int (2 : Int32)), .val (.ref b425), .val (.ref b433), .val (.ref ri439), .unset, .unset] [(.ref b446)]))
          refine own_astore X453 hx hby at_163 rfl (Ls' := #[.val (.int p1), .val (.int p2), .val (.int p3), .val (.int p4), .val (.int (1 : Int32)), .val (.int (0 : Int32)), .val (.int (0 : Int32)), .val (.int (2 : Int32)), .val (.ref b425), .val (.ref b433), .val (.ref ri439), .val (.ref b446), .unset]) rfl (pc' := 165) rfl ?_
          refine own_aload X453 hx hby at_165 rfl rfl (pc' := 167) rfl ?_
          refine own_callV X453 hx hby hZ (by exact hml) hown (own_w hw 55 rfl) (own_w hw 56 rfl) (own_w hw 58 rfl) (own_w hw 57 rfl) (own_w hw 39 rfl) (own_w hw 59 rfl) (by decide) rfl 0 (by decide) (by decide) (by decide) (by decide) (argsL := []) (rest := []) (lenOf pd___Ljava_lang_String_ rfl) rfl (Nat.le_of_eq rfl) E453 (rmL1 l Z a0 hw b446 T453.heap FS453) at_167 (pc' := 170) rfl ?_
          intro v461 T461 L461 X461 hQ461
          obtain ⟨rfl, rfl, e461⟩ := hQ461
          rw [List.append_nil] at X461
          replace e461 : T461.heap = T453.heap := e461
          show GoP p e below Φ (T461.setTop (mkF m 170 #[.val (.int p1), .val (.int p2), .val (.int p3), .val (.int p4), .val (.int (1 : Int32)), .val (.int (0 : Int32)), .val (.int (0 : Int32)), .val (.int (2 : Int32)), .val (.ref b425), .val (.ref b433), .val (.ref ri439), .val (.ref b446), .unset] [.null]))
          refine own_astore X461 hx hby at_170 rfl (Ls' := #[.val (.int p1), .val (.int p2), .val (.int p3), .val (.int p4), .val (.int (1 : Int32)), .val (.int (0 : Int32)), .val (.int (0 : Int32)), .val (.int (2 : Int32)), .val (.ref b425), .val (.ref b433), .val (.ref ri439), .val (.ref b446), .val .null]) rfl (pc' := 172) rfl ?_
          refine own_iload X461 hx hby at_172 rfl (pc' := 174) rfl ?_
          refine own_ifN X461 hx hby at_174 ((if0 _ _).trans (feq (by decide)).1) (pc' := 177) rfl ?_
          refine own_aload X461 hx hby at_177 rfl rfl (pc' := 179) rfl ?_
          refine own_ifnonnullN X461 hx hby at_179 (pc' := 182) rfl ?_
          refine own_iconst X461 hx hby at_182 (v := (1 : Int32)) rfl (pc' := 183) rfl ?_
          refine own_goto X461 hx hby at_183 (by decide) (pc' := 187) (by decide) ?_
          exact own_retN X461 hx hby (fin _ _ hS) hret (by simp) rfl at_187 (by decide) (by decide) ⟨⟨rfl, N453⟩, (by rw [e461]; exact hk)⟩
      · refine own_ifN X hx hby at_34 ((if0 _ _).trans (feq hc34_347).1) (pc' := 37) rfl ?_
        refine own_iconst X hx hby at_37 (v := (1 : Int32)) rfl (pc' := 38) rfl ?_
        refine own_goto X hx hby at_38 (by decide) (pc' := 42) (by decide) ?_
        refine own_istore X hx hby at_42  (Ls' := #[.val (.int p1), .val (.int p2), .val (.int p3), .val (.int p4), .val (.int (1 : Int32)), .val (.int (0 : Int32)), .val (.int (1 : Int32)), .unset, .unset, .unset, .unset, .unset, .unset]) rfl (pc' := 44) rfl ?_
        refine own_iloadN X hx hby at_44 rfl (pc' := 45) rfl ?_
        refine own_iconst X hx hby at_45 (v := (3 : Int32)) rfl (pc' := 46) rfl ?_
        refine own_iushr X hx hby at_46 (pc' := 47) rfl ?_
        refine own_iconst X hx hby at_47 (v := (3 : Int32)) rfl (pc' := 48) rfl ?_
        refine own_irem X hx hby at_48 (by decide) (pc' := 49) rfl ?_
        refine own_istore X hx hby at_49  (Ls' := #[.val (.int p1), .val (.int p2), .val (.int p3), .val (.int p4), .val (.int (1 : Int32)), .val (.int (0 : Int32)), .val (.int (1 : Int32)), .val (.int (((p1.toUInt32 >>> ((3 : Int32) &&& 31).toUInt32).toInt32) % (3 : Int32))), .unset, .unset, .unset, .unset, .unset]) rfl (pc' := 51) rfl ?_
        have hz := own_three p1
        generalize (((p1.toUInt32 >>> ((3 : Int32) &&& 31).toUInt32).toInt32) % (3 : Int32)) = z at hz ⊢
        rcases hz with rfl | rfl | rfl
        · refine own_iload X hx hby at_51 rfl (pc' := 53) rfl ?_
          refine own_ifN X hx hby at_53 ((if0 _ _).trans (teq (by decide)).2) (pc' := 56) rfl ?_
          refine own_iconst X hx hby at_56 (v := (0 : Int32)) rfl (pc' := 57) rfl ?_
          obtain ⟨T462, h462, k462, X462, e462, E462, A462, st462⟩ := newP X hx hZ (own_w hw 0 rfl) eT (g := (mkF m 57 #[.val (.int p1), .val (.int p2), .val (.int p3), .val (.int p4), .val (.int (1 : Int32)), .val (.int (0 : Int32)), .val (.int (1 : Int32)), .val (.int (0 : Int32)), .unset, .unset, .unset, .unset, .unset] [(.int (0 : Int32))])) rfl (hb hby at_57) rfl (by decide) (cap := 0) (by decide) (by decide) (by decide) (by decide)
          obtain ⟨b462, g462⟩ : ∃ z, z = h0.size := ⟨_, rfl⟩
          have S463_COMPACT_STRINGS := Scs.ext E462
          replace hk := Nat.le_trans hk E462.1
          have Z462 : n0 ≤ h462.size := Nat.le_trans Z0 E462.1
          have n0_b462 : n0 ≤ b462 := g462 ▸ Z0
          have O462 := O0.ext E462
          rw [← g462] at A462 st462
          refine own_step st462 ?_
          have V462 : AV Z h462 b462 .char [] := AV.new A462 (by decide)
          show GoP p e below Φ (T462.setTop (mkF m 59 #[.val (.int p1), .val (.int p2), .val (.int p3), .val (.int p4), .val (.int (1 : Int32)), .val (.int (0 : Int32)), .val (.int (1 : Int32)), .val (.int (0 : Int32)), .unset, .unset, .unset, .unset, .unset] [(.ref b462)]))
          refine own_astore X462 hx hby at_59 rfl (Ls' := #[.val (.int p1), .val (.int p2), .val (.int p3), .val (.int p4), .val (.int (1 : Int32)), .val (.int (0 : Int32)), .val (.int (1 : Int32)), .val (.int (0 : Int32)), .val (.ref b462), .unset, .unset, .unset, .unset]) rfl (pc' := 61) rfl ?_
          refine own_goto X462 hx hby at_61 (by decide) (pc' := 110) (by decide) ?_
          refine own_iload X462 hx hby at_110 rfl (pc' := 112) rfl ?_
          refine own_ifY X462 hx hby at_112 ((if0 _ _).trans (teq (by decide)).1) (by decide) (pc' := 119) (by decide) ?_
          obtain ⟨T464, h464, X464, e464, E464, A464, D464, -, st464⟩ := newO X462 hx hZ hown (own_w hw 1 rfl) (own_w hw 2 rfl) (own_w hw 3 rfl) e462 (g := (mkF m 119 #[.val (.int p1), .val (.int p2), .val (.int p3), .val (.int p4), .val (.int (1 : Int32)), .val (.int (0 : Int32)), .val (.int (1 : Int32)), .val (.int (0 : Int32)), .val (.ref b462), .unset, .unset, .unset, .unset] [])) rfl (hb hby at_119) (by decide) (by decide)
          obtain ⟨b464, g464⟩ : ∃ z, z = h462.size := ⟨_, rfl⟩
          have ne_b462_b464 : b462 ≠ b464 := Nat.ne_of_lt (g464 ▸ V462.lt)
          have S465_COMPACT_STRINGS := S463_COMPACT_STRINGS.ext E464
          have V466_b462 := V462.ext E464
          replace hk := Nat.le_trans hk E464.1
          have Z464 : n0 ≤ h464.size := Nat.le_trans Z462 E464.1
          have n0_b464 : n0 ≤ b464 := g464 ▸ Z462
          have O464 := O462.ext E464
          rw [← g464] at A464 D464 st464
          refine own_step st464 ?_
          have F464_value : Fld Z h464 b464 "java/lang/String" "value" "[B" .null := D464 (Or.inr (own_w hw 16 rfl)) (ty := (.array .byte)) (by decide)
          have F464_coder : Fld Z h464 b464 "java/lang/String" "coder" "B" (.int (0 : Int32)) := D464 (Or.inr (own_w hw 17 rfl)) (ty := .byte) (by decide)
          show GoP p e below Φ (T464.setTop (mkF m 122 #[.val (.int p1), .val (.int p2), .val (.int p3), .val (.int p4), .val (.int (1 : Int32)), .val (.int (0 : Int32)), .val (.int (1 : Int32)), .val (.int (0 : Int32)), .val (.ref b462), .unset, .unset, .unset, .unset] [(.ref b464)]))
          refine own_dup X464 hx hby at_122 rfl (pc' := 123) rfl ?_
          refine own_aload X464 hx hby at_123 rfl rfl (pc' := 125) rfl ?_
          refine own_callIX X464 hx hby hZ (by exact hml) hown rfl (own_w hw 4 rfl) (own_w hw 5 rfl) (own_w hw 3 rfl) (own_w hw 6 rfl) (by decide) e464 1 (by decide) (by decide) (by decide) (by decide) (argsL := [(.ref b462)]) (rest := [(.ref b464)]) (lenOf pd___C_V rfl) rfl (Nat.le_of_eq rfl) (rmI1_0 l Z a0 hw b464 b462 n0 h464 n0_b464 Z464 O464.2 hh hcw A464 F464_coder F464_value V466_b462) at_125 (pc' := 128) rfl hS hk own_litS_stays (Or.inl hPv) ?_
          clear hS hk hZ hown
          intro v467 T467 L467 X467 hS hk hZ hown hge467 hQ467
          obtain ⟨rfl, Nq467, K467, ⟨aL467, bL467, LL467, EL467, CL467, VL467, BL467⟩, bb467, E467, FC467, FV467, V467⟩ := hQ467
          have S468_COMPACT_STRINGS := own_stakeep S465_COMPACT_STRINGS K467 (allS (own_plainE A464) all0)
          have V469_b462 := V466_b462.keep K467 (ninS ne_b462_b464 nin0)
          have N467 := Fr.app N0 Nq467
          have O467 := O464.keep K467 (allS n0_b464 all0)
          have Z467 : n0 ≤ T467.heap.size := Nat.le_trans Z464 K467.1
          show GoP p e below Φ (T467.setTop (mkF m 128 #[.val (.int p1), .val (.int p2), .val (.int p3), .val (.int p4), .val (.int (1 : Int32)), .val (.int (0 : Int32)), .val (.int (1 : Int32)), .val (.int (0 : Int32)), .val (.ref b462), .unset, .unset, .unset, .unset] [(.ref b464)]))
          obtain ⟨aL, eaL⟩ : ∃ q, q = aL467 := ⟨_, rfl⟩
          obtain ⟨bL, ebL⟩ : ∃ q, q = bL467 := ⟨_, rfl⟩
          rw [← eaL] at LL467 EL467 CL467 VL467
          rw [← ebL] at VL467 BL467
          have LL := LL467
          refine own_astore X467 hx hby at_128 rfl (Ls' := #[.val (.int p1), .val (.int p2), .val (.int p3), .val (.int p4), .val (.int (1 : Int32)), .val (.int (0 : Int32)), .val (.int (1 : Int32)), .val (.int (0 : Int32)), .val (.ref b462), .val (.ref b464), .unset, .unset, .unset]) rfl (pc' := 130) rfl ?_
          refine own_iload X467 hx hby at_130 rfl (pc' := 132) rfl ?_
          refine own_ifN X467 hx hby at_132 ((if0 _ _).trans (feq (by decide)).1) (pc' := 135) rfl ?_
          refine own_aconst_null X467 hx hby at_135 (pc' := 136) rfl ?_
          refine own_goto X467 hx hby at_136 (by decide) (pc' := 148) (by decide) ?_
          refine own_astore X467 hx hby at_148 rfl (Ls' := #[.val (.int p1), .val (.int p2), .val (.int p3), .val (.int p4), .val (.int (1 : Int32)), .val (.int (0 : Int32)), .val (.int (1 : Int32)), .val (.int (0 : Int32)), .val (.ref b462), .val (.ref b464), .val .null, .unset, .unset]) rfl (pc' := 150) rfl ?_
          obtain ⟨T470, h470, X470, e470, E470, A470, D470, -, st470⟩ := newO X467 hx hZ hown (own_w hw 37 rfl) (own_w hw 38 rfl) (own_w hw 39 rfl) rfl (g := (mkF m 150 #[.val (.int p1), .val (.int p2), .val (.int p3), .val (.int p4), .val (.int (1 : Int32)), .val (.int (0 : Int32)), .val (.int (1 : Int32)), .val (.int (0 : Int32)), .val (.ref b462), .val (.ref b464), .val .null, .unset, .unset] [])) rfl (hb hby at_150) (by decide) (by decide)
          obtain ⟨b470, g470⟩ : ∃ z, z = T467.heap.size := ⟨_, rfl⟩
          have ne_b462_b470 : b462 ≠ b470 := Nat.ne_of_lt (g470 ▸ V469_b462.lt)
          have ne_b464_b470 : b464 ≠ b470 := Nat.ne_of_lt (g470 ▸ E467.lt)
          have ne_bb467_b470 : bb467 ≠ b470 := Nat.ne_of_lt (g470 ▸ V467.lt)
          have ne_aL_b470 : aL ≠ b470 := Nat.ne_of_lt (g470 ▸ EL467.lt)
          have ne_bL_b470 : bL ≠ b470 := Nat.ne_of_lt (g470 ▸ BL467.lt)
          have S471_COMPACT_STRINGS := S468_COMPACT_STRINGS.ext E470
          have V472_b462 := V469_b462.ext E470
          have E473_b464 := E467.ext E470
          have F474_value := FV467.ext E470
          have F475_coder := FC467.ext E470
          have V476_bb467 := V467.ext E470
          have E477_aL := EL467.ext E470
          have F478_coder := CL467.ext E470
          have F479_value := VL467.ext E470
          have V480_bL := BL467.ext E470
          replace hk := Nat.le_trans hk E470.1
          have Z470 : n0 ≤ h470.size := Nat.le_trans Z467 E470.1
          have n0_b470 : n0 ≤ b470 := g470 ▸ Z467
          have O470 := O467.ext E470
          rw [← g470] at A470 D470 st470
          refine own_step st470 ?_
          have F470_id : Fld Z h470 b470 "com/example/tracemass/tracemass/nets/PetriNet$TransitionNode" "id" "Ljava/lang/String;" .null := D470 (Or.inr (own_w hw 50 rfl)) (ty := (.object "java/lang/String")) (by decide)
          have F470_name : Fld Z h470 b470 "com/example/tracemass/tracemass/nets/PetriNet$TransitionNode" "name" "Ljava/lang/String;" .null := D470 (Or.inr (own_w hw 52 rfl)) (ty := (.object "java/lang/String")) (by decide)
          have F470_silent : Fld Z h470 b470 "com/example/tracemass/tracemass/nets/PetriNet$TransitionNode" "silent" "Z" (.int (0 : Int32)) := D470 (Or.inr (own_w hw 54 rfl)) (ty := .boolean) (by decide)
          show GoP p e below Φ (T470.setTop (mkF m 153 #[.val (.int p1), .val (.int p2), .val (.int p3), .val (.int p4), .val (.int (1 : Int32)), .val (.int (0 : Int32)), .val (.int (1 : Int32)), .val (.int (0 : Int32)), .val (.ref b462), .val (.ref b464), .val .null, .unset, .unset] [(.ref b470)]))
          refine own_dup X470 hx hby at_153 rfl (pc' := 154) rfl ?_
          refine own_aload X470 hx hby at_154 rfl rfl (pc' := 156) rfl ?_
          refine own_aload X470 hx hby at_156 rfl rfl (pc' := 158) rfl ?_
          refine own_iload X470 hx hby at_158 rfl (pc' := 160) rfl ?_
          refine own_callI X470 hx hby hZ (by exact hml) hown rfl (own_w hw 40 rfl) (own_w hw 41 rfl) (own_w hw 39 rfl) (own_w hw 42 rfl) (by decide) e470 1 (by decide) (by decide) (by decide) (by decide) (argsL := [.null, (.ref b464), (.int (1 : Int32))]) (rest := [(.ref b470)]) (lenOf pd__Ljava_lang_String_Ljava_lang_String_Z_V rfl) rfl (Nat.le_of_eq rfl) (rmT_1NR l Z a0 hw b470  b464 n0 h470 n0_b470 A470 F470_id F470_name F470_silent) at_160 (pc' := 163) rfl ?_
          intro v481 T481 L481 X481 hQ481
          obtain ⟨rfl, Nq481, K481, E481, FN481, FS481⟩ := hQ481
          have S482_COMPACT_STRINGS := own_stakeep S471_COMPACT_STRINGS K481 (allS (own_plainE A470) all0)
          have V483_b462 := V472_b462.keep K481 (ninS ne_b462_b470 nin0)
          have E484_b464 := E473_b464.keep K481
          have F485_value := F474_value.keep K481 (ninS ne_b464_b470 nin0)
          have F486_coder := F475_coder.keep K481 (ninS ne_b464_b470 nin0)
          have V487_bb467 := V476_bb467.keep K481 (ninS ne_bb467_b470 nin0)
          have E488_aL := E477_aL.keep K481
          have F489_coder := F478_coder.keep K481 (ninS ne_aL_b470 nin0)
          have F490_value := F479_value.keep K481 (ninS ne_aL_b470 nin0)
          have V491_bL := V480_bL.keep K481 (ninS ne_bL_b470 nin0)
          have N481 := Fr.app N467 Nq481
          have O481 := O470.keep K481 (allS n0_b470 all0)
          have Z481 : n0 ≤ T481.heap.size := Nat.le_trans Z470 K481.1
          replace hk := Nat.le_trans hk K481.1
          show GoP p e below Φ (T481.setTop (mkF m 163 #[.val (.int p1), .val (.int p2), .val (.int p3), .val (.int p4), .val (.int (1 : Int32)), .val (.int (0 : Int32)), .val (.int (1 : Int32)), .val (.int (0 : Int32)), .val (.ref b462), .val (.ref b464), .val .null, .unset, .unset] [(.ref b470)]))
          refine own_astore X481 hx hby at_163 rfl (Ls' := #[.val (.int p1), .val (.int p2), .val (.int p3), .val (.int p4), .val (.int (1 : Int32)), .val (.int (0 : Int32)), .val (.int (1 : Int32)), .val (.int (0 : Int32)), .val (.ref b462), .val (.ref b464), .val .null, .val (.ref b470), .unset]) rfl (pc' := 165) rfl ?_
          refine own_aload X481 hx hby at_165 rfl rfl (pc' := 167) rfl ?_
          refine own_callV X481 hx hby hZ (by exact hml) hown (own_w hw 55 rfl) (own_w hw 56 rfl) (own_w hw 58 rfl) (own_w hw 57 rfl) (own_w hw 39 rfl) (own_w hw 59 rfl) (by decide) rfl 0 (by decide) (by decide) (by decide) (by decide) (argsL := []) (rest := []) (lenOf pd___Ljava_lang_String_ rfl) rfl (Nat.le_of_eq rfl) E481 (rmL1 l Z a0 hw b470 T481.heap FS481) at_167 (pc' := 170) rfl ?_
          intro v493 T493 L493 X493 hQ493
          obtain ⟨rfl, rfl, e493⟩ := hQ493
          rw [List.append_nil] at X493
          replace e493 : T493.heap = T481.heap := e493
          show GoP p e below Φ (T493.setTop (mkF m 170 #[.val (.int p1), .val (.int p2), .val (.int p3), .val (.int p4), .val (.int (1 : Int32)), .val (.int (0 : Int32)), .val (.int (1 : Int32)), .val (.int (0 : Int32)), .val (.ref b462), .val (.ref b464), .val .null, .val (.ref b470), .unset] [.null]))
          refine own_astore X493 hx hby at_170 rfl (Ls' := #[.val (.int p1), .val (.int p2), .val (.int p3), .val (.int p4), .val (.int (1 : Int32)), .val (.int (0 : Int32)), .val (.int (1 : Int32)), .val (.int (0 : Int32)), .val (.ref b462), .val (.ref b464), .val .null, .val (.ref b470), .val .null]) rfl (pc' := 172) rfl ?_
          refine own_iload X493 hx hby at_172 rfl (pc' := 174) rfl ?_
          refine own_ifN X493 hx hby at_174 ((if0 _ _).trans (feq (by decide)).1) (pc' := 177) rfl ?_
          refine own_aload X493 hx hby at_177 rfl rfl (pc' := 179) rfl ?_
          refine own_ifnonnullN X493 hx hby at_179 (pc' := 182) rfl ?_
          refine own_iconst X493 hx hby at_182 (v := (1 : Int32)) rfl (pc' := 183) rfl ?_
          refine own_goto X493 hx hby at_183 (by decide) (pc' := 187) (by decide) ?_
          exact own_retN X493 hx hby (fin _ _ hS) hret (by simp) rfl at_187 (by decide) (by decide) ⟨⟨rfl, N481⟩, (by rw [e493]; exact hk)⟩
        · refine own_iload X hx hby at_51 rfl (pc' := 53) rfl ?_
          refine own_ifY X hx hby at_53 ((if0 _ _).trans (feq (by decide)).2) (by decide) (pc' := 64) (by decide) ?_
          refine own_iload X hx hby at_64 rfl (pc' := 66) rfl ?_
          refine own_iconst X hx hby at_66 (v := (1 : Int32)) rfl (pc' := 67) rfl ?_
          refine own_icmpN X hx hby at_67 (teq (by decide)).2 (pc' := 70) rfl ?_
          refine own_iconst X hx hby at_70 (v := (1 : Int32)) rfl (pc' := 71) rfl ?_
          obtain ⟨T494, h494, k494, X494, e494, E494, A494, st494⟩ := newP X hx hZ (own_w hw 0 rfl) eT (g := (mkF m 71 #[.val (.int p1), .val (.int p2), .val (.int p3), .val (.int p4), .val (.int (1 : Int32)), .val (.int (0 : Int32)), .val (.int (1 : Int32)), .val (.int (1 : Int32)), .unset, .unset, .unset, .unset, .unset] [(.int (1 : Int32))])) rfl (hb hby at_71) rfl (by decide) (cap := 1) (by decide) (by decide) (by decide) (by decide)
          obtain ⟨b494, g494⟩ : ∃ z, z = h0.size := ⟨_, rfl⟩
          have S495_COMPACT_STRINGS := Scs.ext E494
          replace hk := Nat.le_trans hk E494.1
          have Z494 : n0 ≤ h494.size := Nat.le_trans Z0 E494.1
          have n0_b494 : n0 ≤ b494 := g494 ▸ Z0
          have O494 := O0.ext E494
          rw [← g494] at A494 st494
          refine own_step st494 ?_
          have V494 : AV Z h494 b494 .char [(.int (0 : Int32))] := AV.new A494 (by decide)
          show GoP p e below Φ (T494.setTop (mkF m 73 #[.val (.int p1), .val (.int p2), .val (.int p3), .val (.int p4), .val (.int (1 : Int32)), .val (.int (0 : Int32)), .val (.int (1 : Int32)), .val (.int (1 : Int32)), .unset, .unset, .unset, .unset, .unset] [(.ref b494)]))
          refine own_dup X494 hx hby at_73 rfl (pc' := 74) rfl ?_
          refine own_iconst X494 hx hby at_74 (v := (0 : Int32)) rfl (pc' := 75) rfl ?_
          refine own_iloadN X494 hx hby at_75 rfl (pc' := 76) rfl ?_
          refine own_sipush X494 hx hby at_76 (v := (255 : Int32)) rfl (pc' := 79) rfl ?_
          refine own_iand X494 hx hby at_79 (pc' := 80) rfl ?_
          refine own_i2c X494 hx hby at_80 (pc' := 81) rfl ?_
          obtain ⟨y2, ey2, hy2⟩ : ∃ x : Int32, x = (nar .char ((p2 &&& (255 : Int32)).toUInt32.toUInt16.toUInt32.toInt32)) ∧ ¬ (255 : Int32) < x := ⟨_, rfl, own_chr p2⟩
          refine own_castore X494 hx hby hZ e494 V494 (by decide) (Nat.le_of_ble_eq_true rfl) at_81 (pc' := 82) rfl ?_
          intro T496 h496 X496 e496 W496 V496
          replace V496 : AV Z h496 b494 .char [(.int (nar .char ((p2 &&& (255 : Int32)).toUInt32.toUInt16.toUInt32.toInt32)))] := V496
          have S497_COMPACT_STRINGS := S495_COMPACT_STRINGS.wr W496
          replace hk := W496.size.symm ▸ hk
          have Z496 : n0 ≤ h496.size := by rw [W496.size]; exact Z494
          have O496 := O494.wr W496 n0_b494
          have N496 := Fr.snoc X496 N0 n0_b494
          rw [← ey2] at V496
          refine own_astore X496 hx hby at_82 rfl (Ls' := #[.val (.int p1), .val (.int p2), .val (.int p3), .val (.int p4), .val (.int (1 : Int32)), .val (.int (0 : Int32)), .val (.int (1 : Int32)), .val (.int (1 : Int32)), .val (.ref b494), .unset, .unset, .unset, .unset]) rfl (pc' := 84) rfl ?_
          refine own_goto X496 hx hby at_84 (by decide) (pc' := 110) (by decide) ?_
          refine own_iload X496 hx hby at_110 rfl (pc' := 112) rfl ?_
          refine own_ifY X496 hx hby at_112 ((if0 _ _).trans (teq (by decide)).1) (by decide) (pc' := 119) (by decide) ?_
          obtain ⟨T499, h499, X499, e499, E499, A499, D499, -, st499⟩ := newO X496 hx hZ hown (own_w hw 1 rfl) (own_w hw 2 rfl) (own_w hw 3 rfl) e496 (g := (mkF m 119 #[.val (.int p1), .val (.int p2), .val (.int p3), .val (.int p4), .val (.int (1 : Int32)), .val (.int (0 : Int32)), .val (.int (1 : Int32)), .val (.int (1 : Int32)), .val (.ref b494), .unset, .unset, .unset, .unset] [])) rfl (hb hby at_119) (by decide) (by decide)
          obtain ⟨b499, g499⟩ : ∃ z, z = h496.size := ⟨_, rfl⟩
          have ne_b494_b499 : b494 ≠ b499 := Nat.ne_of_lt (g499 ▸ V496.lt)
          have S500_COMPACT_STRINGS := S497_COMPACT_STRINGS.ext E499
          have V501_b494 := V496.ext E499
          replace hk := Nat.le_trans hk E499.1
          have Z499 : n0 ≤ h499.size := Nat.le_trans Z496 E499.1
          have n0_b499 : n0 ≤ b499 := g499 ▸ Z496
          have O499 := O496.ext E499
          rw [← g499] at A499 D499 st499
          refine own_step st499 ?_
          have F499_value : Fld Z h499 b499 "java/lang/String" "value" "[B" .null := D499 (Or.inr (own_w hw 16 rfl)) (ty := (.array .byte)) (by decide)
          have F499_coder : Fld Z h499 b499 "java/lang/String" "coder" "B" (.int (0 : Int32)) := D499 (Or.inr (own_w hw 17 rfl)) (ty := .byte) (by decide)
          show GoP p e below Φ (T499.setTop (mkF m 122 #[.val (.int p1), .val (.int p2), .val (.int p3), .val (.int p4), .val (.int (1 : Int32)), .val (.int (0 : Int32)), .val (.int (1 : Int32)), .val (.int (1 : Int32)), .val (.ref b494), .unset, .unset, .unset, .unset] [(.ref b499)]))
          refine own_dup X499 hx hby at_122 rfl (pc' := 123) rfl ?_
          refine own_aload X499 hx hby at_123 rfl rfl (pc' := 125) rfl ?_
          refine own_callI X499 hx hby hZ (by exact hml) hown rfl (own_w hw 4 rfl) (own_w hw 5 rfl) (own_w hw 3 rfl) (own_w hw 6 rfl) (by decide) e499 1 (by decide) (by decide) (by decide) (by decide) (argsL := [(.ref b494)]) (rest := [(.ref b499)]) (lenOf pd___C_V rfl) rfl (Nat.le_of_eq rfl) (rmI1_1 l Z a0 hw b499 b494 cs y2 n0 h499 hcs hy2 n0_b499 Z499 (Ne.symm ne_b494_b499) S500_COMPACT_STRINGS A499 F499_coder F499_value V501_b494) at_125 (pc' := 128) rfl ?_
          intro v502 T502 L502 X502 hQ502
          obtain ⟨rfl, Nq502, K502, bb502, sb502, E502, FC502, FV502, V502⟩ := hQ502
          have ne_b494_bb502 : b494 ≠ bb502 := Nat.ne_of_lt (Nat.lt_of_lt_of_le V501_b494.lt sb502)
          have ne_b499_bb502 : b499 ≠ bb502 := Nat.ne_of_lt (Nat.lt_of_lt_of_le A499.lt sb502)
          have S503_COMPACT_STRINGS := own_stakeep S500_COMPACT_STRINGS K502 (allS (own_plainE A499) all0)
          have V504_b494 := V501_b494.keep K502 (ninS ne_b494_b499 nin0)
          have N502 := Fr.app N496 Nq502
          have O502 := O499.keep K502 (allS n0_b499 all0)
          have Z502 : n0 ≤ T502.heap.size := Nat.le_trans Z499 K502.1
          replace hk := Nat.le_trans hk K502.1
          show GoP p e below Φ (T502.setTop (mkF m 128 #[.val (.int p1), .val (.int p2), .val (.int p3), .val (.int p4), .val (.int (1 : Int32)), .val (.int (0 : Int32)), .val (.int (1 : Int32)), .val (.int (1 : Int32)), .val (.ref b494), .unset, .unset, .unset, .unset] [(.ref b499)]))
          refine own_astore X502 hx hby at_128 rfl (Ls' := #[.val (.int p1), .val (.int p2), .val (.int p3), .val (.int p4), .val (.int (1 : Int32)), .val (.int (0 : Int32)), .val (.int (1 : Int32)), .val (.int (1 : Int32)), .val (.ref b494), .val (.ref b499), .unset, .unset, .unset]) rfl (pc' := 130) rfl ?_
          refine own_iload X502 hx hby at_130 rfl (pc' := 132) rfl ?_
          refine own_ifN X502 hx hby at_132 ((if0 _ _).trans (feq (by decide)).1) (pc' := 135) rfl ?_
          refine own_aconst_null X502 hx hby at_135 (pc' := 136) rfl ?_
          refine own_goto X502 hx hby at_136 (by decide) (pc' := 148) (by decide) ?_
          refine own_astore X502 hx hby at_148 rfl (Ls' := #[.val (.int p1), .val (.int p2), .val (.int p3), .val (.int p4), .val (.int (1 : Int32)), .val (.int (0 : Int32)), .val (.int (1 : Int32)), .val (.int (1 : Int32)), .val (.ref b494), .val (.ref b499), .val .null, .unset, .unset]) rfl (pc' := 150) rfl ?_
          obtain ⟨T505, h505, X505, e505, E505, A505, D505, -, st505⟩ := newO X502 hx hZ hown (own_w hw 37 rfl) (own_w hw 38 rfl) (own_w hw 39 rfl) rfl (g := (mkF m 150 #[.val (.int p1), .val (.int p2), .val (.int p3), .val (.int p4), .val (.int (1 : Int32)), .val (.int (0 : Int32)), .val (.int (1 : Int32)), .val (.int (1 : Int32)), .val (.ref b494), .val (.ref b499), .val .null, .unset, .unset] [])) rfl (hb hby at_150) (by decide) (by decide)
          obtain ⟨b505, g505⟩ : ∃ z, z = T502.heap.size := ⟨_, rfl⟩
          have ne_b494_b505 : b494 ≠ b505 := Nat.ne_of_lt (g505 ▸ V504_b494.lt)
          have ne_b499_b505 : b499 ≠ b505 := Nat.ne_of_lt (g505 ▸ E502.lt)
          have ne_bb502_b505 : bb502 ≠ b505 := Nat.ne_of_lt (g505 ▸ V502.lt)
          have S506_COMPACT_STRINGS := S503_COMPACT_STRINGS.ext E505
          have V507_b494 := V504_b494.ext E505
          have E508_b499 := E502.ext E505
          have F509_value := FV502.ext E505
          have F510_coder := FC502.ext E505
          have V511_bb502 := V502.ext E505
          replace hk := Nat.le_trans hk E505.1
          have Z505 : n0 ≤ h505.size := Nat.le_trans Z502 E505.1
          have n0_b505 : n0 ≤ b505 := g505 ▸ Z502
          have O505 := O502.ext E505
          rw [← g505] at A505 D505 st505
          refine own_step st505 ?_
          have F505_id : Fld Z h505 b505 "com/example/tracemass/tracemass/nets/PetriNet$TransitionNode" "id" "Ljava/lang/String;" .null := D505 (Or.inr (own_w hw 50 rfl)) (ty := (.object "java/lang/String")) (by decide)
          have F505_name : Fld Z h505 b505 "com/example/tracemass/tracemass/nets/PetriNet$TransitionNode" "name" "Ljava/lang/String;" .null := D505 (Or.inr (own_w hw 52 rfl)) (ty := (.object "java/lang/String")) (by decide)
          have F505_silent : Fld Z h505 b505 "com/example/tracemass/tracemass/nets/PetriNet$TransitionNode" "silent" "Z" (.int (0 : Int32)) := D505 (Or.inr (own_w hw 54 rfl)) (ty := .boolean) (by decide)
          show GoP p e below Φ (T505.setTop (mkF m 153 #[.val (.int p1), .val (.int p2), .val (.int p3), .val (.int p4), .val (.int (1 : Int32)), .val (.int (0 : Int32)), .val (.int (1 : Int32)), .val (.int (1 : Int32)), .val (.ref b494), .val (.ref b499), .val .null, .unset, .unset] [(.ref b505)]))
          refine own_dup X505 hx hby at_153 rfl (pc' := 154) rfl ?_
          refine own_aload X505 hx hby at_154 rfl rfl (pc' := 156) rfl ?_
          refine own_aload X505 hx hby at_156 rfl rfl (pc' := 158) rfl ?_
          refine own_iload X505 hx hby at_158 rfl (pc' := 160) rfl ?_
          refine own_callI X505 hx hby hZ (by exact hml) hown rfl (own_w hw 40 rfl) (own_w hw 41 rfl) (own_w hw 39 rfl) (own_w hw 42 rfl) (by decide) e505 1 (by decide) (by decide) (by decide) (by decide) (argsL := [.null, (.ref b499), (.int (1 : Int32))]) (rest := [(.ref b505)]) (lenOf pd__Ljava_lang_String_Ljava_lang_String_Z_V rfl) rfl (Nat.le_of_eq rfl) (rmT_1NR l Z a0 hw b505  b499 n0 h505 n0_b505 A505 F505_id F505_name F505_silent) at_160 (pc' := 163) rfl ?_
          intro v512 T512 L512 X512 hQ512
          obtain ⟨rfl, Nq512, K512, E512, FN512, FS512⟩ := hQ512
          have S513_COMPACT_STRINGS := own_stakeep S506_COMPACT_STRINGS K512 (allS (own_plainE A505) all0)
          have V514_b494 := V507_b494.keep K512 (ninS ne_b494_b505 nin0)
          have E515_b499 := E508_b499.keep K512
          have F516_value := F509_value.keep K512 (ninS ne_b499_b505 nin0)
          have F517_coder := F510_coder.keep K512 (ninS ne_b499_b505 nin0)
          have V518_bb502 := V511_bb502.keep K512 (ninS ne_bb502_b505 nin0)
          have N512 := Fr.app N502 Nq512
          have O512 := O505.keep K512 (allS n0_b505 all0)
          have Z512 : n0 ≤ T512.heap.size := Nat.le_trans Z505 K512.1
          replace hk := Nat.le_trans hk K512.1
          show GoP p e below Φ (T512.setTop (mkF m 163 #[.val (.int p1), .val (.int p2), .val (.int p3), .val (.int p4), .val (.int (1 : Int32)), .val (.int (0 : Int32)), .val (.int (1 : Int32)), .val (.int (1 : Int32)), .val (.ref b494), .val (.ref b499), .val .null, .unset, .unset] [(.ref b505)]))
          refine own_astore X512 hx hby at_163 rfl (Ls' := #[.val (.int p1), .val (.int p2), .val (.int p3), .val (.int p4), .val (.int (1 : Int32)), .val (.int (0 : Int32)), .val (.int (1 : Int32)), .val (.int (1 : Int32)), .val (.ref b494), .val (.ref b499), .val .null, .val (.ref b505), .unset]) rfl (pc' := 165) rfl ?_
          refine own_aload X512 hx hby at_165 rfl rfl (pc' := 167) rfl ?_
          refine own_callV X512 hx hby hZ (by exact hml) hown (own_w hw 55 rfl) (own_w hw 56 rfl) (own_w hw 58 rfl) (own_w hw 57 rfl) (own_w hw 39 rfl) (own_w hw 59 rfl) (by decide) rfl 0 (by decide) (by decide) (by decide) (by decide) (argsL := []) (rest := []) (lenOf pd___Ljava_lang_String_ rfl) rfl (Nat.le_of_eq rfl) E512 (rmL1 l Z a0 hw b505 T512.heap FS512) at_167 (pc' := 170) rfl ?_
          intro v520 T520 L520 X520 hQ520
          obtain ⟨rfl, rfl, e520⟩ := hQ520
          rw [List.append_nil] at X520
          replace e520 : T520.heap = T512.heap := e520
          show GoP p e below Φ (T520.setTop (mkF m 170 #[.val (.int p1), .val (.int p2), .val (.int p3), .val (.int p4), .val (.int (1 : Int32)), .val (.int (0 : Int32)), .val (.int (1 : Int32)), .val (.int (1 : Int32)), .val (.ref b494), .val (.ref b499), .val .null, .val (.ref b505), .unset] [.null]))
          refine own_astore X520 hx hby at_170 rfl (Ls' := #[.val (.int p1), .val (.int p2), .val (.int p3), .val (.int p4), .val (.int (1 : Int32)), .val (.int (0 : Int32)), .val (.int (1 : Int32)), .val (.int (1 : Int32)), .val (.ref b494), .val (.ref b499), .val .null, .val (.ref b505), .val .null]) rfl (pc' := 172) rfl ?_
          refine own_iload X520 hx hby at_172 rfl (pc' := 174) rfl ?_
          refine own_ifN X520 hx hby at_174 ((if0 _ _).trans (feq (by decide)).1) (pc' := 177) rfl ?_
          refine own_aload X520 hx hby at_177 rfl rfl (pc' := 179) rfl ?_
          refine own_ifnonnullN X520 hx hby at_179 (pc' := 182) rfl ?_
          refine own_iconst X520 hx hby at_182 (v := (1 : Int32)) rfl (pc' := 183) rfl ?_
          refine own_goto X520 hx hby at_183 (by decide) (pc' := 187) (by decide) ?_
          exact own_retN X520 hx hby (fin _ _ hS) hret (by simp) rfl at_187 (by decide) (by decide) ⟨⟨rfl, N512⟩, (by rw [e520]; exact hk)⟩
        · refine own_iload X hx hby at_51 rfl (pc' := 53) rfl ?_
          refine own_ifY X hx hby at_53 ((if0 _ _).trans (feq (by decide)).2) (by decide) (pc' := 64) (by decide) ?_
          refine own_iload X hx hby at_64 rfl (pc' := 66) rfl ?_
          refine own_iconst X hx hby at_66 (v := (1 : Int32)) rfl (pc' := 67) rfl ?_
          refine own_icmpY X hx hby at_67 (feq (by decide)).2 (by decide) (pc' := 87) (by decide) ?_
          refine own_iconst X hx hby at_87 (v := (2 : Int32)) rfl (pc' := 88) rfl ?_
          obtain ⟨T521, h521, k521, X521, e521, E521, A521, st521⟩ := newP X hx hZ (own_w hw 0 rfl) eT (g := (mkF m 88 #[.val (.int p1), .val (.int p2), .val (.int p3), .val (.int p4), .val (.int (1 : Int32)), .val (.int (0 : Int32)), .val (.int (1 : Int32)), .val (.int (2 : Int32)), .unset, .unset, .unset, .unset, .unset] [(.int (2 : Int32))])) rfl (hb hby at_88) rfl (by decide) (cap := 2) (by decide) (by decide) (by decide) (by decide)
          obtain ⟨b521, g521⟩ : ∃ z, z = h0.size := ⟨_, rfl⟩
          have S522_COMPACT_STRINGS := Scs.ext E521
          replace hk := Nat.le_trans hk E521.1
          have Z521 : n0 ≤ h521.size := Nat.le_trans Z0 E521.1
          have n0_b521 : n0 ≤ b521 := g521 ▸ Z0
          have O521 := O0.ext E521
          rw [← g521] at A521 st521
          refine own_step st521 ?_
          have V521 : AV Z h521 b521 .char [(.int (0 : Int32)), (.int (0 : Int32))] := AV.new A521 (by decide)
          show GoP p e below Φ (T521.setTop (mkF m 90 #[.val (.int p1), .val (.int p2), .val (.int p3), .val (.int p4), .val (.int (1 : Int32)), .val (.int (0 : Int32)), .val (.int (1 : Int32)), .val (.int (2 : Int32)), .unset, .unset, .unset, .unset, .unset] [(.ref b521)]))
          refine own_dup X521 hx hby at_90 rfl (pc' := 91) rfl ?_
          refine own_iconst X521 hx hby at_91 (v := (0 : Int32)) rfl (pc' := 92) rfl ?_
          refine own_iloadN X521 hx hby at_92 rfl (pc' := 93) rfl ?_
          refine own_sipush X521 hx hby at_93 (v := (255 : Int32)) rfl (pc' := 96) rfl ?_
          refine own_iand X521 hx hby at_96 (pc' := 97) rfl ?_
          refine own_i2c X521 hx hby at_97 (pc' := 98) rfl ?_
          obtain ⟨y2, ey2, hy2⟩ : ∃ x : Int32, x = (nar .char ((p2 &&& (255 : Int32)).toUInt32.toUInt16.toUInt32.toInt32)) ∧ ¬ (255 : Int32) < x := ⟨_, rfl, own_chr p2⟩
          refine own_castore X521 hx hby hZ e521 V521 (by decide) (Nat.le_of_ble_eq_true rfl) at_98 (pc' := 99) rfl ?_
          intro T523 h523 X523 e523 W523 V523
          replace V523 : AV Z h523 b521 .char [(.int (nar .char ((p2 &&& (255 : Int32)).toUInt32.toUInt16.toUInt32.toInt32))), (.int (0 : Int32))] := V523
          have S524_COMPACT_STRINGS := S522_COMPACT_STRINGS.wr W523
          replace hk := W523.size.symm ▸ hk
          have Z523 : n0 ≤ h523.size := by rw [W523.size]; exact Z521
          have O523 := O521.wr W523 n0_b521
          have N523 := Fr.snoc X523 N0 n0_b521
          rw [← ey2] at V523
          refine own_dup X523 hx hby at_99 rfl (pc' := 100) rfl ?_
          refine own_iconst X523 hx hby at_100 (v := (1 : Int32)) rfl (pc' := 101) rfl ?_
          refine own_iloadN X523 hx hby at_101 rfl (pc' := 102) rfl ?_
          refine own_sipush X523 hx hby at_102 (v := (255 : Int32)) rfl (pc' := 105) rfl ?_
          refine own_iand X523 hx hby at_105 (pc' := 106) rfl ?_
          refine own_i2c X523 hx hby at_106 (pc' := 107) rfl ?_
          obtain ⟨y3, ey3, hy3⟩ : ∃ x : Int32, x = (nar .char ((p3 &&& (255 : Int32)).toUInt32.toUInt16.toUInt32.toInt32)) ∧ ¬ (255 : Int32) < x := ⟨_, rfl, own_chr p3⟩
          refine own_castore X523 hx hby hZ e523 V523 (by decide) (Nat.le_of_ble_eq_true rfl) at_107 (pc' := 108) rfl ?_
          intro T526 h526 X526 e526 W526 V526
          replace V526 : AV Z h526 b521 .char [(.int y2), (.int (nar .char ((p3 &&& (255 : Int32)).toUInt32.toUInt16.toUInt32.toInt32)))] := V526
          have S527_COMPACT_STRINGS := S524_COMPACT_STRINGS.wr W526
          replace hk := W526.size.symm ▸ hk
          have Z526 : n0 ≤ h526.size := by rw [W526.size]; exact Z523
          have O526 := O523.wr W526 n0_b521
          have N526 := Fr.snoc X526 N523 n0_b521
          rw [← ey3] at V526
          refine own_astore X526 hx hby at_108 rfl (Ls' := #[.val (.int p1), .val (.int p2), .val (.int p3), .val (.int p4), .val (.int (1 : Int32)), .val (.int (0 : Int32)), .val (.int (1 : Int32)), .val (.int (2 : Int32)), .val (.ref b521), .unset, .unset, .unset, .unset]) rfl (pc' := 110) rfl ?_
          refine own_iload X526 hx hby at_110 rfl (pc' := 112) rfl ?_
          refine own_ifY X526 hx hby at_112 ((if0 _ _).trans (teq (by decide)).1) (by decide) (pc' := 119) (by decide) ?_
          obtain ⟨T529, h529, X529, e529, E529, A529, D529, -, st529⟩ := newO X526 hx hZ hown (own_w hw 1 rfl) (own_w hw 2 rfl) (own_w hw 3 rfl) e526 (g := (mkF m 119 #[.val (.int p1), .val (.int p2), .val (.int p3), .val (.int p4), .val (.int (1 : Int32)), .val (.int (0 : Int32)), .val (.int (1 : Int32)), .val (.int (2 : Int32)), .val (.ref b521), .unset, .unset, .unset, .unset] [])) rfl (hb hby at_119) (by decide) (by decide)
          obtain ⟨b529, g529⟩ : ∃ z, z = h526.size := ⟨_, rfl⟩
          have ne_b521_b529 : b521 ≠ b529 := Nat.ne_of_lt (g529 ▸ V526.lt)
          have S530_COMPACT_STRINGS := S527_COMPACT_STRINGS.ext E529
          have V531_b521 := V526.ext E529
          replace hk := Nat.le_trans hk E529.1
          have Z529 : n0 ≤ h529.size := Nat.le_trans Z526 E529.1
          have n0_b529 : n0 ≤ b529 := g529 ▸ Z526
          have O529 := O526.ext E529
          rw [← g529] at A529 D529 st529
          refine own_step st529 ?_
          have F529_value : Fld Z h529 b529 "java/lang/String" "value" "[B" .null := D529 (Or.inr (own_w hw 16 rfl)) (ty := (.array .byte)) (by decide)
          have F529_coder : Fld Z h529 b529 "java/lang/String" "coder" "B" (.int (0 : Int32)) := D529 (Or.inr (own_w hw 17 rfl)) (ty := .byte) (by decide)
          show GoP p e below Φ (T529.setTop (mkF m 122 #[.val (.int p1), .val (.int p2), .val (.int p3), .val (.int p4), .val (.int (1 : Int32)), .val (.int (0 : Int32)), .val (.int (1 : Int32)), .val (.int (2 : Int32)), .val (.ref b521), .unset, .unset, .unset, .unset] [(.ref b529)]))
          refine own_dup X529 hx hby at_122 rfl (pc' := 123) rfl ?_
          refine own_aload X529 hx hby at_123 rfl rfl (pc' := 125) rfl ?_
          refine own_callI X529 hx hby hZ (by exact hml) hown rfl (own_w hw 4 rfl) (own_w hw 5 rfl) (own_w hw 3 rfl) (own_w hw 6 rfl) (by decide) e529 1 (by decide) (by decide) (by decide) (by decide) (argsL := [(.ref b521)]) (rest := [(.ref b529)]) (lenOf pd___C_V rfl) rfl (Nat.le_of_eq rfl) (rmI1_2 l Z a0 hw b529 b521 cs y2 y3 n0 h529 hcs hy2 hy3 n0_b529 Z529 (Ne.symm ne_b521_b529) S530_COMPACT_STRINGS A529 F529_coder F529_value V531_b521) at_125 (pc' := 128) rfl ?_
          intro v532 T532 L532 X532 hQ532
          obtain ⟨rfl, Nq532, K532, bb532, sb532, E532, FC532, FV532, V532⟩ := hQ532
          have ne_b521_bb532 : b521 ≠ bb532 := Nat.ne_of_lt (Nat.lt_of_lt_of_le V531_b521.lt sb532)
          have ne_b529_bb532 : b529 ≠ bb532 := Nat.ne_of_lt (Nat.lt_of_lt_of_le A529.lt sb532)
          have S533_COMPACT_STRINGS := own_stakeep S530_COMPACT_STRINGS K532 (allS (own_plainE A529) all0)
          have V534_b521 := V531_b521.keep K532 (ninS ne_b521_b529 nin0)
          have N532 := Fr.app N526 Nq532
          have O532 := O529.keep K532 (allS n0_b529 all0)
          have Z532 : n0 ≤ T532.heap.size := Nat.le_trans Z529 K532.1
          replace hk := Nat.le_trans hk K532.1
          show GoP p e below Φ (T532.setTop (mkF m 128 #[.val (.int p1), .val (.int p2), .val (.int p3), .val (.int p4), .val (.int (1 : Int32)), .val (.int (0 : Int32)), .val (.int (1 : Int32)), .val (.int (2 : Int32)), .val (.ref b521), .unset, .unset, .unset, .unset] [(.ref b529)]))
          refine own_astore X532 hx hby at_128 rfl (Ls' := #[.val (.int p1), .val (.int p2), .val (.int p3), .val (.int p4), .val (.int (1 : Int32)), .val (.int (0 : Int32)), .val (.int (1 : Int32)), .val (.int (2 : Int32)), .val (.ref b521), .val (.ref b529), .unset, .unset, .unset]) rfl (pc' := 130) rfl ?_
          refine own_iload X532 hx hby at_130 rfl (pc' := 132) rfl ?_
          refine own_ifN X532 hx hby at_132 ((if0 _ _).trans (feq (by decide)).1) (pc' := 135) rfl ?_
          refine own_aconst_null X532 hx hby at_135 (pc' := 136) rfl ?_
          refine own_goto X532 hx hby at_136 (by decide) (pc' := 148) (by decide) ?_
          refine own_astore X532 hx hby at_148 rfl (Ls' := #[.val (.int p1), .val (.int p2), .val (.int p3), .val (.int p4), .val (.int (1 : Int32)), .val (.int (0 : Int32)), .val (.int (1 : Int32)), .val (.int (2 : Int32)), .val (.ref b521), .val (.ref b529), .val .null, .unset, .unset]) rfl (pc' := 150) rfl ?_
          obtain ⟨T535, h535, X535, e535, E535, A535, D535, -, st535⟩ := newO X532 hx hZ hown (own_w hw 37 rfl) (own_w hw 38 rfl) (own_w hw 39 rfl) rfl (g := (mkF m 150 #[.val (.int p1), .val (.int p2), .val (.int p3), .val (.int p4), .val (.int (1 : Int32)), .val (.int (0 : Int32)), .val (.int (1 : Int32)), .val (.int (2 : Int32)), .val (.ref b521), .val (.ref b529), .val .null, .unset, .unset] [])) rfl (hb hby at_150) (by decide) (by decide)
          obtain ⟨b535, g535⟩ : ∃ z, z = T532.heap.size := ⟨_, rfl⟩
          have ne_b521_b535 : b521 ≠ b535 := Nat.ne_of_lt (g535 ▸ V534_b521.lt)
          have ne_b529_b535 : b529 ≠ b535 := Nat.ne_of_lt (g535 ▸ E532.lt)
          have ne_bb532_b535 : bb532 ≠ b535 := Nat.ne_of_lt (g535 ▸ V532.lt)
          have S536_COMPACT_STRINGS := S533_COMPACT_STRINGS.ext E535
          have V537_b521 := V534_b521.ext E535
          have E538_b529 := E532.ext E535
          have F539_value := FV532.ext E535
          have F540_coder := FC532.ext E535
          have V541_bb532 := V532.ext E535
          replace hk := Nat.le_trans hk E535.1
          have Z535 : n0 ≤ h535.size := Nat.le_trans Z532 E535.1
          have n0_b535 : n0 ≤ b535 := g535 ▸ Z532
          have O535 := O532.ext E535
          rw [← g535] at A535 D535 st535
          refine own_step st535 ?_
          have F535_id : Fld Z h535 b535 "com/example/tracemass/tracemass/nets/PetriNet$TransitionNode" "id" "Ljava/lang/String;" .null := D535 (Or.inr (own_w hw 50 rfl)) (ty := (.object "java/lang/String")) (by decide)
          have F535_name : Fld Z h535 b535 "com/example/tracemass/tracemass/nets/PetriNet$TransitionNode" "name" "Ljava/lang/String;" .null := D535 (Or.inr (own_w hw 52 rfl)) (ty := (.object "java/lang/String")) (by decide)
          have F535_silent : Fld Z h535 b535 "com/example/tracemass/tracemass/nets/PetriNet$TransitionNode" "silent" "Z" (.int (0 : Int32)) := D535 (Or.inr (own_w hw 54 rfl)) (ty := .boolean) (by decide)
          show GoP p e below Φ (T535.setTop (mkF m 153 #[.val (.int p1), .val (.int p2), .val (.int p3), .val (.int p4), .val (.int (1 : Int32)), .val (.int (0 : Int32)), .val (.int (1 : Int32)), .val (.int (2 : Int32)), .val (.ref b521), .val (.ref b529), .val .null, .unset, .unset] [(.ref b535)]))
          refine own_dup X535 hx hby at_153 rfl (pc' := 154) rfl ?_
          refine own_aload X535 hx hby at_154 rfl rfl (pc' := 156) rfl ?_
          refine own_aload X535 hx hby at_156 rfl rfl (pc' := 158) rfl ?_
          refine own_iload X535 hx hby at_158 rfl (pc' := 160) rfl ?_
          refine own_callI X535 hx hby hZ (by exact hml) hown rfl (own_w hw 40 rfl) (own_w hw 41 rfl) (own_w hw 39 rfl) (own_w hw 42 rfl) (by decide) e535 1 (by decide) (by decide) (by decide) (by decide) (argsL := [.null, (.ref b529), (.int (1 : Int32))]) (rest := [(.ref b535)]) (lenOf pd__Ljava_lang_String_Ljava_lang_String_Z_V rfl) rfl (Nat.le_of_eq rfl) (rmT_1NR l Z a0 hw b535  b529 n0 h535 n0_b535 A535 F535_id F535_name F535_silent) at_160 (pc' := 163) rfl ?_
          intro v542 T542 L542 X542 hQ542
          obtain ⟨rfl, Nq542, K542, E542, FN542, FS542⟩ := hQ542
          have S543_COMPACT_STRINGS := own_stakeep S536_COMPACT_STRINGS K542 (allS (own_plainE A535) all0)
          have V544_b521 := V537_b521.keep K542 (ninS ne_b521_b535 nin0)
          have E545_b529 := E538_b529.keep K542
          have F546_value := F539_value.keep K542 (ninS ne_b529_b535 nin0)
          have F547_coder := F540_coder.keep K542 (ninS ne_b529_b535 nin0)
          have V548_bb532 := V541_bb532.keep K542 (ninS ne_bb532_b535 nin0)
          have N542 := Fr.app N532 Nq542
          have O542 := O535.keep K542 (allS n0_b535 all0)
          have Z542 : n0 ≤ T542.heap.size := Nat.le_trans Z535 K542.1
          replace hk := Nat.le_trans hk K542.1
          show GoP p e below Φ (T542.setTop (mkF m 163 #[.val (.int p1), .val (.int p2), .val (.int p3), .val (.int p4), .val (.int (1 : Int32)), .val (.int (0 : Int32)), .val (.int (1 : Int32)), .val (.int (2 : Int32)), .val (.ref b521), .val (.ref b529), .val .null, .unset, .unset] [(.ref b535)]))
          refine own_astore X542 hx hby at_163 rfl (Ls' := #[.val (.int p1), .val (.int p2), .val (.int p3), .val (.int p4), .val (.int (1 : Int32)), .val (.int (0 : Int32)), .val (.int (1 : Int32)), .val (.int (2 : Int32)), .val (.ref b521), .val (.ref b529), .val .null, .val (.ref b535), .unset]) rfl (pc' := 165) rfl ?_
          refine own_aload X542 hx hby at_165 rfl rfl (pc' := 167) rfl ?_
          refine own_callV X542 hx hby hZ (by exact hml) hown (own_w hw 55 rfl) (own_w hw 56 rfl) (own_w hw 58 rfl) (own_w hw 57 rfl) (own_w hw 39 rfl) (own_w hw 59 rfl) (by decide) rfl 0 (by decide) (by decide) (by decide) (by decide) (argsL := []) (rest := []) (lenOf pd___Ljava_lang_String_ rfl) rfl (Nat.le_of_eq rfl) E542 (rmL1 l Z a0 hw b535 T542.heap FS542) at_167 (pc' := 170) rfl ?_
          intro v550 T550 L550 X550 hQ550
          obtain ⟨rfl, rfl, e550⟩ := hQ550
          rw [List.append_nil] at X550
          replace e550 : T550.heap = T542.heap := e550
          show GoP p e below Φ (T550.setTop (mkF m 170 #[.val (.int p1), .val (.int p2), .val (.int p3), .val (.int p4), .val (.int (1 : Int32)), .val (.int (0 : Int32)), .val (.int (1 : Int32)), .val (.int (2 : Int32)), .val (.ref b521), .val (.ref b529), .val .null, .val (.ref b535), .unset] [.null]))
          refine own_astore X550 hx hby at_170 rfl (Ls' := #[.val (.int p1), .val (.int p2), .val (.int p3), .val (.int p4), .val (.int (1 : Int32)), .val (.int (0 : Int32)), .val (.int (1 : Int32)), .val (.int (2 : Int32)), .val (.ref b521), .val (.ref b529), .val .null, .val (.ref b535), .val .null]) rfl (pc' := 172) rfl ?_
          refine own_iload X550 hx hby at_172 rfl (pc' := 174) rfl ?_
          refine own_ifN X550 hx hby at_174 ((if0 _ _).trans (feq (by decide)).1) (pc' := 177) rfl ?_
          refine own_aload X550 hx hby at_177 rfl rfl (pc' := 179) rfl ?_
          refine own_ifnonnullN X550 hx hby at_179 (pc' := 182) rfl ?_
          refine own_iconst X550 hx hby at_182 (v := (1 : Int32)) rfl (pc' := 183) rfl ?_
          refine own_goto X550 hx hby at_183 (by decide) (pc' := 187) (by decide) ?_
          exact own_retN X550 hx hby (fin _ _ hS) hret (by simp) rfl at_187 (by decide) (by decide) ⟨⟨rfl, N542⟩, (by rw [e550]; exact hk)⟩
    · refine own_ifN X hx hby at_21 ((if0 _ _).trans (feq hc21_346).1) (pc' := 24) rfl ?_
      refine own_iconst X hx hby at_24 (v := (1 : Int32)) rfl (pc' := 25) rfl ?_
      refine own_goto X hx hby at_25 (by decide) (pc' := 29) (by decide) ?_
      refine own_istore X hx hby at_29  (Ls' := #[.val (.int p1), .val (.int p2), .val (.int p3), .val (.int p4), .val (.int (1 : Int32)), .val (.int (1 : Int32)), .unset, .unset, .unset, .unset, .unset, .unset, .unset]) rfl (pc' := 31) rfl ?_
      refine own_iloadN X hx hby at_31 rfl (pc' := 32) rfl ?_
      refine own_iconst X hx hby at_32 (v := (4 : Int32)) rfl (pc' := 33) rfl ?_
      refine own_iand X hx hby at_33 (pc' := 34) rfl ?_
      by_cases hc34_551 : (p1 &&& (4 : Int32)) = (0 : Int32)
      · refine own_ifY X hx hby at_34 ((if0 _ _).trans (teq hc34_551).1) (by decide) (pc' := 41) (by decide) ?_
        refine own_iconst X hx hby at_41 (v := (0 : Int32)) rfl (pc' := 42) rfl ?_
        refine own_istore X hx hby at_42  (Ls' := #[.val (.int p1), .val (.int p2), .val (.int p3), .val (.int p4), .val (.int (1 : Int32)), .val (.int (1 : Int32)), .val (.int (0 : Int32)), .unset, .unset, .unset, .unset, .unset, .unset]) rfl (pc' := 44) rfl ?_
        refine own_iloadN X hx hby at_44 rfl (pc' := 45) rfl ?_
        refine own_iconst X hx hby at_45 (v := (3 : Int32)) rfl (pc' := 46) rfl ?_
        refine own_iushr X hx hby at_46 (pc' := 47) rfl ?_
        refine own_iconst X hx hby at_47 (v := (3 : Int32)) rfl (pc' := 48) rfl ?_
        refine own_irem X hx hby at_48 (by decide) (pc' := 49) rfl ?_
        refine own_istore X hx hby at_49  (Ls' := #[.val (.int p1), .val (.int p2), .val (.int p3), .val (.int p4), .val (.int (1 : Int32)), .val (.int (1 : Int32)), .val (.int (0 : Int32)), .val (.int (((p1.toUInt32 >>> ((3 : Int32) &&& 31).toUInt32).toInt32) % (3 : Int32))), .unset, .unset, .unset, .unset, .unset]) rfl (pc' := 51) rfl ?_
        have hz := own_three p1
        generalize (((p1.toUInt32 >>> ((3 : Int32) &&& 31).toUInt32).toInt32) % (3 : Int32)) = z at hz ⊢
        rcases hz with rfl | rfl | rfl
        · refine own_iload X hx hby at_51 rfl (pc' := 53) rfl ?_
          refine own_ifN X hx hby at_53 ((if0 _ _).trans (teq (by decide)).2) (pc' := 56) rfl ?_
          refine own_iconst X hx hby at_56 (v := (0 : Int32)) rfl (pc' := 57) rfl ?_
          obtain ⟨T552, h552, k552, X552, e552, E552, A552, st552⟩ := newP X hx hZ (own_w hw 0 rfl) eT (g := (mkF m 57 #[.val (.int p1), .val (.int p2), .val (.int p3), .val (.int p4), .val (.int (1 : Int32)), .val (.int (1 : Int32)), .val (.int (0 : Int32)), .val (.int (0 : Int32)), .unset, .unset, .unset, .unset, .unset] [(.int (0 : Int32))])) rfl (hb hby at_57) rfl (by decide) (cap := 0) (by decide) (by decide) (by decide) (by decide)
          obtain ⟨b552, g552⟩ : ∃ z, z = h0.size := ⟨_, rfl⟩
          have S553_COMPACT_STRINGS := Scs.ext E552
          replace hk := Nat.le_trans hk E552.1
          have Z552 : n0 ≤ h552.size := Nat.le_trans Z0 E552.1
          have n0_b552 : n0 ≤ b552 := g552 ▸ Z0
          have O552 := O0.ext E552
          rw [← g552] at A552 st552
          refine own_step st552 ?_
          have V552 : AV Z h552 b552 .char [] := AV.new A552 (by decide)
          show GoP p e below Φ (T552.setTop (mkF m 59 #[.val (.int p1), .val (.int p2), .val (.int p3), .val (.int p4), .val (.int (1 : Int32)), .val (.int (1 : Int32)), .val (.int (0 : Int32)), .val (.int (0 : Int32)), .unset, .unset, .unset, .unset, .unset] [(.ref b552)]))
          refine own_astore X552 hx hby at_59 rfl (Ls' := #[.val (.int p1), .val (.int p2), .val (.int p3), .val (.int p4), .val (.int (1 : Int32)), .val (.int (1 : Int32)), .val (.int (0 : Int32)), .val (.int (0 : Int32)), .val (.ref b552), .unset, .unset, .unset, .unset]) rfl (pc' := 61) rfl ?_
          refine own_goto X552 hx hby at_61 (by decide) (pc' := 110) (by decide) ?_
          refine own_iload X552 hx hby at_110 rfl (pc' := 112) rfl ?_
          refine own_ifN X552 hx hby at_112 ((if0 _ _).trans (feq (by decide)).1) (pc' := 115) rfl ?_
          refine own_aconst_null X552 hx hby at_115 (pc' := 116) rfl ?_
          refine own_goto X552 hx hby at_116 (by decide) (pc' := 128) (by decide) ?_
          refine own_astore X552 hx hby at_128 rfl (Ls' := #[.val (.int p1), .val (.int p2), .val (.int p3), .val (.int p4), .val (.int (1 : Int32)), .val (.int (1 : Int32)), .val (.int (0 : Int32)), .val (.int (0 : Int32)), .val (.ref b552), .val .null, .unset, .unset, .unset]) rfl (pc' := 130) rfl ?_
          refine own_iload X552 hx hby at_130 rfl (pc' := 132) rfl ?_
          refine own_ifY X552 hx hby at_132 ((if0 _ _).trans (teq (by decide)).1) (by decide) (pc' := 139) (by decide) ?_
          refine own_iloadN X552 hx hby at_139 rfl (pc' := 140) rfl ?_
          refine own_sipush X552 hx hby at_140 (v := (255 : Int32)) rfl (pc' := 143) rfl ?_
          refine own_iand X552 hx hby at_143 (pc' := 144) rfl ?_
          refine own_i2c X552 hx hby at_144 (pc' := 145) rfl ?_
          refine own_callS X552 hx hby hZ (by exact hml) hown (own_w hw 22 rfl) (own_w hw 23 rfl) (own_w hw 3 rfl) (own_w hw 24 rfl) (by decide) e552 0 (by decide) (by decide) (by decide) (by decide) (argsL := [(.int ((p4 &&& (255 : Int32)).toUInt32.toUInt16.toUInt32.toInt32))]) (rest := []) (lenOf pd__C_Ljava_lang_String_ rfl) rfl (rmVO l Z a0 hw ((p4 &&& (255 : Int32)).toUInt32.toUInt16.toUInt32.toInt32) cs n0 h552 (own_chr1 p4) hcs Z552 S553_COMPACT_STRINGS) (Nat.le_of_eq rfl) at_145 (pc' := 148) rfl ?_
          intro v554 T554 L554 X554 hQ554
          obtain ⟨ri554, rfl, Nq554, K554, sr554⟩ := hQ554
          have S555_COMPACT_STRINGS := own_stakeep S553_COMPACT_STRINGS K554 all0
          have V556_b552 := V552.keep K554 nin0
          have N554 := Fr.app N0 Nq554
          have O554 := O552.keep K554 all0
          have Z554 : n0 ≤ T554.heap.size := Nat.le_trans Z552 K554.1
          replace hk := Nat.le_trans hk K554.1
          show GoP p e below Φ (T554.setTop (mkF m 148 #[.val (.int p1), .val (.int p2), .val (.int p3), .val (.int p4), .val (.int (1 : Int32)), .val (.int (1 : Int32)), .val (.int (0 : Int32)), .val (.int (0 : Int32)), .val (.ref b552), .val .null, .unset, .unset, .unset] [(.ref ri554)]))
          refine own_astore X554 hx hby at_148 rfl (Ls' := #[.val (.int p1), .val (.int p2), .val (.int p3), .val (.int p4), .val (.int (1 : Int32)), .val (.int (1 : Int32)), .val (.int (0 : Int32)), .val (.int (0 : Int32)), .val (.ref b552), .val .null, .val (.ref ri554), .unset, .unset]) rfl (pc' := 150) rfl ?_
          obtain ⟨T557, h557, X557, e557, E557, A557, D557, -, st557⟩ := newO X554 hx hZ hown (own_w hw 37 rfl) (own_w hw 38 rfl) (own_w hw 39 rfl) rfl (g := (mkF m 150 #[.val (.int p1), .val (.int p2), .val (.int p3), .val (.int p4), .val (.int (1 : Int32)), .val (.int (1 : Int32)), .val (.int (0 : Int32)), .val (.int (0 : Int32)), .val (.ref b552), .val .null, .val (.ref ri554), .unset, .unset] [])) rfl (hb hby at_150) (by decide) (by decide)
          obtain ⟨b557, g557⟩ : ∃ z, z = T554.heap.size := ⟨_, rfl⟩
          have ne_b552_b557 : b552 ≠ b557 := Nat.ne_of_lt (g557 ▸ V556_b552.lt)
          have S558_COMPACT_STRINGS := S555_COMPACT_STRINGS.ext E557
          have V559_b552 := V556_b552.ext E557
          replace hk := Nat.le_trans hk E557.1
          have Z557 : n0 ≤ h557.size := Nat.le_trans Z554 E557.1
          have n0_b557 : n0 ≤ b557 := g557 ▸ Z554
          have O557 := O554.ext E557
          rw [← g557] at A557 D557 st557
          refine own_step st557 ?_
          have F557_id : Fld Z h557 b557 "com/example/tracemass/tracemass/nets/PetriNet$TransitionNode" "id" "Ljava/lang/String;" .null := D557 (Or.inr (own_w hw 50 rfl)) (ty := (.object "java/lang/String")) (by decide)
          have F557_name : Fld Z h557 b557 "com/example/tracemass/tracemass/nets/PetriNet$TransitionNode" "name" "Ljava/lang/String;" .null := D557 (Or.inr (own_w hw 52 rfl)) (ty := (.object "java/lang/String")) (by decide)
          have F557_silent : Fld Z h557 b557 "com/example/tracemass/tracemass/nets/PetriNet$TransitionNode" "silent" "Z" (.int (0 : Int32)) := D557 (Or.inr (own_w hw 54 rfl)) (ty := .boolean) (by decide)
          show GoP p e below Φ (T557.setTop (mkF m 153 #[.val (.int p1), .val (.int p2), .val (.int p3), .val (.int p4), .val (.int (1 : Int32)), .val (.int (1 : Int32)), .val (.int (0 : Int32)), .val (.int (0 : Int32)), .val (.ref b552), .val .null, .val (.ref ri554), .unset, .unset] [(.ref b557)]))
          refine own_dup X557 hx hby at_153 rfl (pc' := 154) rfl ?_
          refine own_aload X557 hx hby at_154 rfl rfl (pc' := 156) rfl ?_
          refine own_aload X557 hx hby at_156 rfl rfl (pc' := 158) rfl ?_
          refine own_iload X557 hx hby at_158 rfl (pc' := 160) rfl ?_
          refine own_callI X557 hx hby hZ (by exact hml) hown rfl (own_w hw 40 rfl) (own_w hw 41 rfl) (own_w hw 39 rfl) (own_w hw 42 rfl) (by decide) e557 1 (by decide) (by decide) (by decide) (by decide) (argsL := [(.ref ri554), .null, (.int (1 : Int32))]) (rest := [(.ref b557)]) (lenOf pd__Ljava_lang_String_Ljava_lang_String_Z_V rfl) rfl (Nat.le_of_eq rfl) (rmT_1RN l Z a0 hw b557 ri554  n0 h557 n0_b557 A557 F557_id F557_name F557_silent) at_160 (pc' := 163) rfl ?_
          intro v560 T560 L560 X560 hQ560
          obtain ⟨rfl, Nq560, K560, E560, FN560, FS560⟩ := hQ560
          have S561_COMPACT_STRINGS := own_stakeep S558_COMPACT_STRINGS K560 (allS (own_plainE A557) all0)
          have V562_b552 := V559_b552.keep K560 (ninS ne_b552_b557 nin0)
          have N560 := Fr.app N554 Nq560
          have O560 := O557.keep K560 (allS n0_b557 all0)
          have Z560 : n0 ≤ T560.heap.size := Nat.le_trans Z557 K560.1
          replace hk := Nat.le_trans hk K560.1
          show GoP p e below Φ (T560.setTop (mkF m 163 #[.val (.int p1), .val (.int p2), .val (.int p3), .val (.int p4), .val (.int (1 : Int32)), .val (.int (1 : Int32)), .val (.int (0 : Int32)), .val (.int (0 : Int32)), .val (.ref b552), .val .null, .val (.ref ri554), .unset, .unset] [(.ref b557)]))
          refine own_astore X560 hx hby at_163 rfl (Ls' := #[.val (.int p1), .val (.int p2), .val (.int p3), .val (.int p4), .val (.int (1 : Int32)), .val (.int (1 : Int32)), .val (.int (0 : Int32)), .val (.int (0 : Int32)), .val (.ref b552), .val .null, .val (.ref ri554), .val (.ref b557), .unset]) rfl (pc' := 165) rfl ?_
          refine own_aload X560 hx hby at_165 rfl rfl (pc' := 167) rfl ?_
          refine own_callV X560 hx hby hZ (by exact hml) hown (own_w hw 55 rfl) (own_w hw 56 rfl) (own_w hw 58 rfl) (own_w hw 57 rfl) (own_w hw 39 rfl) (own_w hw 59 rfl) (by decide) rfl 0 (by decide) (by decide) (by decide) (by decide) (argsL := []) (rest := []) (lenOf pd___Ljava_lang_String_ rfl) rfl (Nat.le_of_eq rfl) E560 (rmL1 l Z a0 hw b557 T560.heap FS560) at_167 (pc' := 170) rfl ?_
          intro v564 T564 L564 X564 hQ564
          obtain ⟨rfl, rfl, e564⟩ := hQ564
          rw [List.append_nil] at X564
          replace e564 : T564.heap = T560.heap := e564
          show GoP p e below Φ (T564.setTop (mkF m 170 #[.val (.int p1), .val (.int p2), .val (.int p3), .val (.int p4), .val (.int (1 : Int32)), .val (.int (1 : Int32)), .val (.int (0 : Int32)), .val (.int (0 : Int32)), .val (.ref b552), .val .null, .val (.ref ri554), .val (.ref b557), .unset] [.null]))
          refine own_astore X564 hx hby at_170 rfl (Ls' := #[.val (.int p1), .val (.int p2), .val (.int p3), .val (.int p4), .val (.int (1 : Int32)), .val (.int (1 : Int32)), .val (.int (0 : Int32)), .val (.int (0 : Int32)), .val (.ref b552), .val .null, .val (.ref ri554), .val (.ref b557), .val .null]) rfl (pc' := 172) rfl ?_
          refine own_iload X564 hx hby at_172 rfl (pc' := 174) rfl ?_
          refine own_ifN X564 hx hby at_174 ((if0 _ _).trans (feq (by decide)).1) (pc' := 177) rfl ?_
          refine own_aload X564 hx hby at_177 rfl rfl (pc' := 179) rfl ?_
          refine own_ifnonnullN X564 hx hby at_179 (pc' := 182) rfl ?_
          refine own_iconst X564 hx hby at_182 (v := (1 : Int32)) rfl (pc' := 183) rfl ?_
          refine own_goto X564 hx hby at_183 (by decide) (pc' := 187) (by decide) ?_
          exact own_retN X564 hx hby (fin _ _ hS) hret (by simp) rfl at_187 (by decide) (by decide) ⟨⟨rfl, N560⟩, (by rw [e564]; exact hk)⟩
        · refine own_iload X hx hby at_51 rfl (pc' := 53) rfl ?_
          refine own_ifY X hx hby at_53 ((if0 _ _).trans (feq (by decide)).2) (by decide) (pc' := 64) (by decide) ?_
          refine own_iload X hx hby at_64 rfl (pc' := 66) rfl ?_
          refine own_iconst X hx hby at_66 (v := (1 : Int32)) rfl (pc' := 67) rfl ?_
          refine own_icmpN X hx hby at_67 (teq (by decide)).2 (pc' := 70) rfl ?_
          refine own_iconst X hx hby at_70 (v := (1 : Int32)) rfl (pc' := 71) rfl ?_
          obtain ⟨T565, h565, k565, X565, e565, E565, A565, st565⟩ := newP X hx hZ (own_w hw 0 rfl) eT (g := (mkF m 71 #[.val (.int p1), .val (.int p2), .val (.int p3), .val (.int p4), .val (.int (1 : Int32)), .val (.int (1 : Int32)), .val (.int (0 : Int32)), .val (.int (1 : Int32)), .unset, .unset, .unset, .unset, .unset] [(.int (1 : Int32))])) rfl (hb hby at_71) rfl (by decide) (cap := 1) (by decide) (by decide) (by decide) (by decide)
          obtain ⟨b565, g565⟩ : ∃ z, z = h0.size := ⟨_, rfl⟩
          have S566_COMPACT_STRINGS := Scs.ext E565
          replace hk := Nat.le_trans hk E565.1
          have Z565 : n0 ≤ h565.size := Nat.le_trans Z0 E565.1
          have n0_b565 : n0 ≤ b565 := g565 ▸ Z0
          have O565 := O0.ext E565
          rw [← g565] at A565 st565
          refine own_step st565 ?_
          have V565 : AV Z h565 b565 .char [(.int (0 : Int32))] := AV.new A565 (by decide)
          show GoP p e below Φ (T565.setTop (mkF m 73 #[.val (.int p1), .val (.int p2), .val (.int p3), .val (.int p4), .val (.int (1 : Int32)), .val (.int (1 : Int32)), .val (.int (0 : Int32)), .val (.int (1 : Int32)), .unset, .unset, .unset, .unset, .unset] [(.ref b565)]))
          refine own_dup X565 hx hby at_73 rfl (pc' := 74) rfl ?_
          refine own_iconst X565 hx hby at_74 (v := (0 : Int32)) rfl (pc' := 75) rfl ?_
          refine own_iloadN X565 hx hby at_75 rfl (pc' := 76) rfl ?_
          refine own_sipush X565 hx hby at_76 (v := (255 : Int32)) rfl (pc' := 79) rfl ?_
          refine own_iand X565 hx hby at_79 (pc' := 80) rfl ?_
          refine own_i2c X565 hx hby at_80 (pc' := 81) rfl ?_
          obtain ⟨y2, ey2, hy2⟩ : ∃ x : Int32, x = (nar .char ((p2 &&& (255 : Int32)).toUInt32.toUInt16.toUInt32.toInt32)) ∧ ¬ (255 : Int32) < x := ⟨_, rfl, own_chr p2⟩
          refine own_castore X565 hx hby hZ e565 V565 (by decide) (Nat.le_of_ble_eq_true rfl) at_81 (pc' := 82) rfl ?_
          intro T567 h567 X567 e567 W567 V567
          replace V567 : AV Z h567 b565 .char [(.int (nar .char ((p2 &&& (255 : Int32)).toUInt32.toUInt16.toUInt32.toInt32)))] := V567
          have S568_COMPACT_STRINGS := S566_COMPACT_STRINGS.wr W567
          replace hk := W567.size.symm ▸ hk
          have Z567 : n0 ≤ h567.size := by rw [W567.size]; exact Z565
          have O567 := O565.wr W567 n0_b565
          have N567 := Fr.snoc X567 N0 n0_b565
          rw [← ey2] at V567
          refine own_astore X567 hx hby at_82 rfl (Ls' := #[.val (.int p1), .val (.int p2), .val (.int p3), .val (.int p4), .val (.int (1 : Int32)), .val (.int (1 : Int32)), .val (.int (0 : Int32)), .val (.int (1 : Int32)), .val (.ref b565), .unset, .unset, .unset, .unset]) rfl (pc' := 84) rfl ?_
          refine own_goto X567 hx hby at_84 (by decide) (pc' := 110) (by decide) ?_
          refine own_iload X567 hx hby at_110 rfl (pc' := 112) rfl ?_
          refine own_ifN X567 hx hby at_112 ((if0 _ _).trans (feq (by decide)).1) (pc' := 115) rfl ?_
          refine own_aconst_null X567 hx hby at_115 (pc' := 116) rfl ?_
          refine own_goto X567 hx hby at_116 (by decide) (pc' := 128) (by decide) ?_
          refine own_astore X567 hx hby at_128 rfl (Ls' := #[.val (.int p1), .val (.int p2), .val (.int p3), .val (.int p4), .val (.int (1 : Int32)), .val (.int (1 : Int32)), .val (.int (0 : Int32)), .val (.int (1 : Int32)), .val (.ref b565), .val .null, .unset, .unset, .unset]) rfl (pc' := 130) rfl ?_
          refine own_iload X567 hx hby at_130 rfl (pc' := 132) rfl ?_
          refine own_ifY X567 hx hby at_132 ((if0 _ _).trans (teq (by decide)).1) (by decide) (pc' := 139) (by decide) ?_
          refine own_iloadN X567 hx hby at_139 rfl (pc' := 140) rfl ?_
          refine own_sipush X567 hx hby at_140 (v := (255 : Int32)) rfl (pc' := 143) rfl ?_
          refine own_iand X567 hx hby at_143 (pc' := 144) rfl ?_
          refine own_i2c X567 hx hby at_144 (pc' := 145) rfl ?_
          refine own_callS X567 hx hby hZ (by exact hml) hown (own_w hw 22 rfl) (own_w hw 23 rfl) (own_w hw 3 rfl) (own_w hw 24 rfl) (by decide) e567 0 (by decide) (by decide) (by decide) (by decide) (argsL := [(.int ((p4 &&& (255 : Int32)).toUInt32.toUInt16.toUInt32.toInt32))]) (rest := []) (lenOf pd__C_Ljava_lang_String_ rfl) rfl (rmVO l Z a0 hw ((p4 &&& (255 : Int32)).toUInt32.toUInt16.toUInt32.toInt32) cs n0 h567 (own_chr1 p4) hcs Z567 S568_COMPACT_STRINGS) (Nat.le_of_eq rfl) at_145 (pc' := 148) rfl ?_
          intro v570 T570 L570 X570 hQ570
          obtain ⟨ri570, rfl, Nq570, K570, sr570⟩ := hQ570
          have S571_COMPACT_STRINGS := own_stakeep S568_COMPACT_STRINGS K570 all0
          have V572_b565 := V567.keep K570 nin0
          have N570 := Fr.app N567 Nq570
          have O570 := O567.keep K570 all0
          have Z570 : n0 ≤ T570.heap.size := Nat.le_trans Z567 K570.1
          replace hk := Nat.le_trans hk K570.1
          show GoP p e below Φ (T570.setTop (mkF m 148 #[.val (.int p1), .val (.int p2), .val (.int p3), .val (.int p4), .val (.int (1 : Int32)), .val (.int (1 : Int32)), .val (.int (0 : Int32)), .val (.int (1 : Int32)), .val (.ref b565), .val .null, .unset, .unset, .unset] [(.ref ri570)]))
          refine own_astore X570 hx hby at_148 rfl (Ls' := #[.val (.int p1), .val (.int p2), .val (.int p3), .val (.int p4), .val (.int (1 : Int32)), .val (.int (1 : Int32)), .val (.int (0 : Int32)), .val (.int (1 : Int32)), .val (.ref b565), .val .null, .val (.ref ri570), .unset, .unset]) rfl (pc' := 150) rfl ?_
          obtain ⟨T573, h573, X573, e573, E573, A573, D573, -, st573⟩ := newO X570 hx hZ hown (own_w hw 37 rfl) (own_w hw 38 rfl) (own_w hw 39 rfl) rfl (g := (mkF m 150 #[.val (.int p1), .val (.int p2), .val (.int p3), .val (.int p4), .val (.int (1 : Int32)), .val (.int (1 : Int32)), .val (.int (0 : Int32)), .val (.int (1 : Int32)), .val (.ref b565), .val .null, .val (.ref ri570), .unset, .unset] [])) rfl (hb hby at_150) (by decide) (by decide)
          obtain ⟨b573, g573⟩ : ∃ z, z = T570.heap.size := ⟨_, rfl⟩
          have ne_b565_b573 : b565 ≠ b573 := Nat.ne_of_lt (g573 ▸ V572_b565.lt)
          have S574_COMPACT_STRINGS := S571_COMPACT_STRINGS.ext E573
          have V575_b565 := V572_b565.ext E573
          replace hk := Nat.le_trans hk E573.1
          have Z573 : n0 ≤ h573.size := Nat.le_trans Z570 E573.1
          have n0_b573 : n0 ≤ b573 := g573 ▸ Z570
          have O573 := O570.ext E573
          rw [← g573] at A573 D573 st573
          refine own_step st573 ?_
          have F573_id : Fld Z h573 b573 "com/example/tracemass/tracemass/nets/PetriNet$TransitionNode" "id" "Ljava/lang/String;" .null := D573 (Or.inr (own_w hw 50 rfl)) (ty := (.object "java/lang/String")) (by decide)
          have F573_name : Fld Z h573 b573 "com/example/tracemass/tracemass/nets/PetriNet$TransitionNode" "name" "Ljava/lang/String;" .null := D573 (Or.inr (own_w hw 52 rfl)) (ty := (.object "java/lang/String")) (by decide)
          have F573_silent : Fld Z h573 b573 "com/example/tracemass/tracemass/nets/PetriNet$TransitionNode" "silent" "Z" (.int (0 : Int32)) := D573 (Or.inr (own_w hw 54 rfl)) (ty := .boolean) (by decide)
          show GoP p e below Φ (T573.setTop (mkF m 153 #[.val (.int p1), .val (.int p2), .val (.int p3), .val (.int p4), .val (.int (1 : Int32)), .val (.int (1 : Int32)), .val (.int (0 : Int32)), .val (.int (1 : Int32)), .val (.ref b565), .val .null, .val (.ref ri570), .unset, .unset] [(.ref b573)]))
          refine own_dup X573 hx hby at_153 rfl (pc' := 154) rfl ?_
          refine own_aload X573 hx hby at_154 rfl rfl (pc' := 156) rfl ?_
          refine own_aload X573 hx hby at_156 rfl rfl (pc' := 158) rfl ?_
          refine own_iload X573 hx hby at_158 rfl (pc' := 160) rfl ?_
          refine own_callI X573 hx hby hZ (by exact hml) hown rfl (own_w hw 40 rfl) (own_w hw 41 rfl) (own_w hw 39 rfl) (own_w hw 42 rfl) (by decide) e573 1 (by decide) (by decide) (by decide) (by decide) (argsL := [(.ref ri570), .null, (.int (1 : Int32))]) (rest := [(.ref b573)]) (lenOf pd__Ljava_lang_String_Ljava_lang_String_Z_V rfl) rfl (Nat.le_of_eq rfl) (rmT_1RN l Z a0 hw b573 ri570  n0 h573 n0_b573 A573 F573_id F573_name F573_silent) at_160 (pc' := 163) rfl ?_
          intro v576 T576 L576 X576 hQ576
          obtain ⟨rfl, Nq576, K576, E576, FN576, FS576⟩ := hQ576
          have S577_COMPACT_STRINGS := own_stakeep S574_COMPACT_STRINGS K576 (allS (own_plainE A573) all0)
          have V578_b565 := V575_b565.keep K576 (ninS ne_b565_b573 nin0)
          have N576 := Fr.app N570 Nq576
          have O576 := O573.keep K576 (allS n0_b573 all0)
          have Z576 : n0 ≤ T576.heap.size := Nat.le_trans Z573 K576.1
          replace hk := Nat.le_trans hk K576.1
          show GoP p e below Φ (T576.setTop (mkF m 163 #[.val (.int p1), .val (.int p2), .val (.int p3), .val (.int p4), .val (.int (1 : Int32)), .val (.int (1 : Int32)), .val (.int (0 : Int32)), .val (.int (1 : Int32)), .val (.ref b565), .val .null, .val (.ref ri570), .unset, .unset] [(.ref b573)]))
          refine own_astore X576 hx hby at_163 rfl (Ls' := #[.val (.int p1), .val (.int p2), .val (.int p3), .val (.int p4), .val (.int (1 : Int32)), .val (.int (1 : Int32)), .val (.int (0 : Int32)), .val (.int (1 : Int32)), .val (.ref b565), .val .null, .val (.ref ri570), .val (.ref b573), .unset]) rfl (pc' := 165) rfl ?_
          refine own_aload X576 hx hby at_165 rfl rfl (pc' := 167) rfl ?_
          refine own_callV X576 hx hby hZ (by exact hml) hown (own_w hw 55 rfl) (own_w hw 56 rfl) (own_w hw 58 rfl) (own_w hw 57 rfl) (own_w hw 39 rfl) (own_w hw 59 rfl) (by decide) rfl 0 (by decide) (by decide) (by decide) (by decide) (argsL := []) (rest := []) (lenOf pd___Ljava_lang_String_ rfl) rfl (Nat.le_of_eq rfl) E576 (rmL1 l Z a0 hw b573 T576.heap FS576) at_167 (pc' := 170) rfl ?_
          intro v580 T580 L580 X580 hQ580
          obtain ⟨rfl, rfl, e580⟩ := hQ580
          rw [List.append_nil] at X580
          replace e580 : T580.heap = T576.heap := e580
          show GoP p e below Φ (T580.setTop (mkF m 170 #[.val (.int p1), .val (.int p2), .val (.int p3), .val (.int p4), .val (.int (1 : Int32)), .val (.int (1 : Int32)), .val (.int (0 : Int32)), .val (.int (1 : Int32)), .val (.ref b565), .val .null, .val (.ref ri570), .val (.ref b573), .unset] [.null]))
          refine own_astore X580 hx hby at_170 rfl (Ls' := #[.val (.int p1), .val (.int p2), .val (.int p3), .val (.int p4), .val (.int (1 : Int32)), .val (.int (1 : Int32)), .val (.int (0 : Int32)), .val (.int (1 : Int32)), .val (.ref b565), .val .null, .val (.ref ri570), .val (.ref b573), .val .null]) rfl (pc' := 172) rfl ?_
          refine own_iload X580 hx hby at_172 rfl (pc' := 174) rfl ?_
          refine own_ifN X580 hx hby at_174 ((if0 _ _).trans (feq (by decide)).1) (pc' := 177) rfl ?_
          refine own_aload X580 hx hby at_177 rfl rfl (pc' := 179) rfl ?_
          refine own_ifnonnullN X580 hx hby at_179 (pc' := 182) rfl ?_
          refine own_iconst X580 hx hby at_182 (v := (1 : Int32)) rfl (pc' := 183) rfl ?_
          refine own_goto X580 hx hby at_183 (by decide) (pc' := 187) (by decide) ?_
          exact own_retN X580 hx hby (fin _ _ hS) hret (by simp) rfl at_187 (by decide) (by decide) ⟨⟨rfl, N576⟩, (by rw [e580]; exact hk)⟩
        · refine own_iload X hx hby at_51 rfl (pc' := 53) rfl ?_
          refine own_ifY X hx hby at_53 ((if0 _ _).trans (feq (by decide)).2) (by decide) (pc' := 64) (by decide) ?_
          refine own_iload X hx hby at_64 rfl (pc' := 66) rfl ?_
          refine own_iconst X hx hby at_66 (v := (1 : Int32)) rfl (pc' := 67) rfl ?_
          refine own_icmpY X hx hby at_67 (feq (by decide)).2 (by decide) (pc' := 87) (by decide) ?_
          refine own_iconst X hx hby at_87 (v := (2 : Int32)) rfl (pc' := 88) rfl ?_
          obtain ⟨T581, h581, k581, X581, e581, E581, A581, st581⟩ := newP X hx hZ (own_w hw 0 rfl) eT (g := (mkF m 88 #[.val (.int p1), .val (.int p2), .val (.int p3), .val (.int p4), .val (.int (1 : Int32)), .val (.int (1 : Int32)), .val (.int (0 : Int32)), .val (.int (2 : Int32)), .unset, .unset, .unset, .unset, .unset] [(.int (2 : Int32))])) rfl (hb hby at_88) rfl (by decide) (cap := 2) (by decide) (by decide) (by decide) (by decide)
          obtain ⟨b581, g581⟩ : ∃ z, z = h0.size := ⟨_, rfl⟩
          have S582_COMPACT_STRINGS := Scs.ext E581
          replace hk := Nat.le_trans hk E581.1
          have Z581 : n0 ≤ h581.size := Nat.le_trans Z0 E581.1
          have n0_b581 : n0 ≤ b581 := g581 ▸ Z0
          have O581 := O0.ext E581
          rw [← g581] at A581 st581
          refine own_step st581 ?_
          have V581 : AV Z h581 b581 .char [(.int (0 : Int32)), (.int (0 : Int32))] := AV.new A581 (by decide)
          show GoP p e below Φ (T581.setTop (mkF m 90 #[.val (.int p1), .val (.int p2), .val (.int p3), .val (.int p4), .val (.int (1 : Int32)), .val (.int (1 : Int32)), .val (.int (0 : Int32)), .val (.int (2 : Int32)), .unset, .unset, .unset, .unset, .unset] [(.ref b581)]))
          refine own_dup X581 hx hby at_90 rfl (pc' := 91) rfl ?_
          refine own_iconst X581 hx hby at_91 (v := (0 : Int32)) rfl (pc' := 92) rfl ?_
          refine own_iloadN X581 hx hby at_92 rfl (pc' := 93) rfl ?_
          refine own_sipush X581 hx hby at_93 (v := (255 : Int32)) rfl (pc' := 96) rfl ?_
          refine own_iand X581 hx hby at_96 (pc' := 97) rfl ?_
          refine own_i2c X581 hx hby at_97 (pc' := 98) rfl ?_
          obtain ⟨y2, ey2, hy2⟩ : ∃ x : Int32, x = (nar .char ((p2 &&& (255 : Int32)).toUInt32.toUInt16.toUInt32.toInt32)) ∧ ¬ (255 : Int32) < x := ⟨_, rfl, own_chr p2⟩
          refine own_castore X581 hx hby hZ e581 V581 (by decide) (Nat.le_of_ble_eq_true rfl) at_98 (pc' := 99) rfl ?_
          intro T583 h583 X583 e583 W583 V583
          replace V583 : AV Z h583 b581 .char [(.int (nar .char ((p2 &&& (255 : Int32)).toUInt32.toUInt16.toUInt32.toInt32))), (.int (0 : Int32))] := V583
          have S584_COMPACT_STRINGS := S582_COMPACT_STRINGS.wr W583
          replace hk := W583.size.symm ▸ hk
          have Z583 : n0 ≤ h583.size := by rw [W583.size]; exact Z581
          have O583 := O581.wr W583 n0_b581
          have N583 := Fr.snoc X583 N0 n0_b581
          rw [← ey2] at V583
          refine own_dup X583 hx hby at_99 rfl (pc' := 100) rfl ?_
          refine own_iconst X583 hx hby at_100 (v := (1 : Int32)) rfl (pc' := 101) rfl ?_
          refine own_iloadN X583 hx hby at_101 rfl (pc' := 102) rfl ?_
          refine own_sipush X583 hx hby at_102 (v := (255 : Int32)) rfl (pc' := 105) rfl ?_
          refine own_iand X583 hx hby at_105 (pc' := 106) rfl ?_
          refine own_i2c X583 hx hby at_106 (pc' := 107) rfl ?_
          obtain ⟨y3, ey3, hy3⟩ : ∃ x : Int32, x = (nar .char ((p3 &&& (255 : Int32)).toUInt32.toUInt16.toUInt32.toInt32)) ∧ ¬ (255 : Int32) < x := ⟨_, rfl, own_chr p3⟩
          refine own_castore X583 hx hby hZ e583 V583 (by decide) (Nat.le_of_ble_eq_true rfl) at_107 (pc' := 108) rfl ?_
          intro T586 h586 X586 e586 W586 V586
          replace V586 : AV Z h586 b581 .char [(.int y2), (.int (nar .char ((p3 &&& (255 : Int32)).toUInt32.toUInt16.toUInt32.toInt32)))] := V586
          have S587_COMPACT_STRINGS := S584_COMPACT_STRINGS.wr W586
          replace hk := W586.size.symm ▸ hk
          have Z586 : n0 ≤ h586.size := by rw [W586.size]; exact Z583
          have O586 := O583.wr W586 n0_b581
          have N586 := Fr.snoc X586 N583 n0_b581
          rw [← ey3] at V586
          refine own_astore X586 hx hby at_108 rfl (Ls' := #[.val (.int p1), .val (.int p2), .val (.int p3), .val (.int p4), .val (.int (1 : Int32)), .val (.int (1 : Int32)), .val (.int (0 : Int32)), .val (.int (2 : Int32)), .val (.ref b581), .unset, .unset, .unset, .unset]) rfl (pc' := 110) rfl ?_
          refine own_iload X586 hx hby at_110 rfl (pc' := 112) rfl ?_
          refine own_ifN X586 hx hby at_112 ((if0 _ _).trans (feq (by decide)).1) (pc' := 115) rfl ?_
          refine own_aconst_null X586 hx hby at_115 (pc' := 116) rfl ?_
          refine own_goto X586 hx hby at_116 (by decide) (pc' := 128) (by decide) ?_
          refine own_astore X586 hx hby at_128 rfl (Ls' := #[.val (.int p1), .val (.int p2), .val (.int p3), .val (.int p4), .val (.int (1 : Int32)), .val (.int (1 : Int32)), .val (.int (0 : Int32)), .val (.int (2 : Int32)), .val (.ref b581), .val .null, .unset, .unset, .unset]) rfl (pc' := 130) rfl ?_
          refine own_iload X586 hx hby at_130 rfl (pc' := 132) rfl ?_
          refine own_ifY X586 hx hby at_132 ((if0 _ _).trans (teq (by decide)).1) (by decide) (pc' := 139) (by decide) ?_
          refine own_iloadN X586 hx hby at_139 rfl (pc' := 140) rfl ?_
          refine own_sipush X586 hx hby at_140 (v := (255 : Int32)) rfl (pc' := 143) rfl ?_
          refine own_iand X586 hx hby at_143 (pc' := 144) rfl ?_
          refine own_i2c X586 hx hby at_144 (pc' := 145) rfl ?_
          refine own_callS X586 hx hby hZ (by exact hml) hown (own_w hw 22 rfl) (own_w hw 23 rfl) (own_w hw 3 rfl) (own_w hw 24 rfl) (by decide) e586 0 (by decide) (by decide) (by decide) (by decide) (argsL := [(.int ((p4 &&& (255 : Int32)).toUInt32.toUInt16.toUInt32.toInt32))]) (rest := []) (lenOf pd__C_Ljava_lang_String_ rfl) rfl (rmVO l Z a0 hw ((p4 &&& (255 : Int32)).toUInt32.toUInt16.toUInt32.toInt32) cs n0 h586 (own_chr1 p4) hcs Z586 S587_COMPACT_STRINGS) (Nat.le_of_eq rfl) at_145 (pc' := 148) rfl ?_
          intro v589 T589 L589 X589 hQ589
          obtain ⟨ri589, rfl, Nq589, K589, sr589⟩ := hQ589
          have S590_COMPACT_STRINGS := own_stakeep S587_COMPACT_STRINGS K589 all0
          have V591_b581 := V586.keep K589 nin0
          have N589 := Fr.app N586 Nq589
          have O589 := O586.keep K589 all0
          have Z589 : n0 ≤ T589.heap.size := Nat.le_trans Z586 K589.1
          replace hk := Nat.le_trans hk K589.1
          show GoP p e below Φ (T589.setTop (mkF m 148 #[.val (.int p1), .val (.int p2), .val (.int p3), .val (.int p4), .val (.int (1 : Int32)), .val (.int (1 : Int32)), .val (.int (0 : Int32)), .val (.int (2 : Int32)), .val (.ref b581), .val .null, .unset, .unset, .unset] [(.ref ri589)]))
          refine own_astore X589 hx hby at_148 rfl (Ls' := #[.val (.int p1), .val (.int p2), .val (.int p3), .val (.int p4), .val (.int (1 : Int32)), .val (.int (1 : Int32)), .val (.int (0 : Int32)), .val (.int (2 : Int32)), .val (.ref b581), .val .null, .val (.ref ri589), .unset, .unset]) rfl (pc' := 150) rfl ?_
          obtain ⟨T592, h592, X592, e592, E592, A592, D592, -, st592⟩ := newO X589 hx hZ hown (own_w hw 37 rfl) (own_w hw 38 rfl) (own_w hw 39 rfl) rfl (g := (mkF m 150 #[.val (.int p1), .val (.int p2), .val (.int p3), .val (.int p4), .val (.int (1 : Int32)), .val (.int (1 : Int32)), .val (.int (0 : Int32)), .val (.int (2 : Int32)), .val (.ref b581), .val .null, .val (.ref ri589), .unset, .unset] [])) rfl (hb hby at_150) (by decide) (by decide)
          obtain ⟨b592, g592⟩ : ∃ z, z = T589.heap.size := ⟨_, rfl⟩
          have ne_b581_b592 : b581 ≠ b592 := Nat.ne_of_lt (g592 ▸ V591_b581.lt)
          have S593_COMPACT_STRINGS := S590_COMPACT_STRINGS.ext E592
          have V594_b581 := V591_b581.ext E592
          replace hk := Nat.le_trans hk E592.1
          have Z592 : n0 ≤ h592.size := Nat.le_trans Z589 E592.1
          have n0_b592 : n0 ≤ b592 := g592 ▸ Z589
          have O592 := O589.ext E592
          rw [← g592] at A592 D592 st592
          refine own_step st592 ?_
          have F592_id : Fld Z h592 b592 "com/example/tracemass/tracemass/nets/PetriNet$TransitionNode" "id" "Ljava/lang/String;" .null := D592 (Or.inr (own_w hw 50 rfl)) (ty := (.object "java/lang/String")) (by decide)
          have F592_name : Fld Z h592 b592 "com/example/tracemass/tracemass/nets/PetriNet$TransitionNode" "name" "Ljava/lang/String;" .null := D592 (Or.inr (own_w hw 52 rfl)) (ty := (.object "java/lang/String")) (by decide)
          have F592_silent : Fld Z h592 b592 "com/example/tracemass/tracemass/nets/PetriNet$TransitionNode" "silent" "Z" (.int (0 : Int32)) := D592 (Or.inr (own_w hw 54 rfl)) (ty := .boolean) (by decide)
          show GoP p e below Φ (T592.setTop (mkF m 153 #[.val (.int p1), .val (.int p2), .val (.int p3), .val (.int p4), .val (.int (1 : Int32)), .val (.int (1 : Int32)), .val (.int (0 : Int32)), .val (.int (2 : Int32)), .val (.ref b581), .val .null, .val (.ref ri589), .unset, .unset] [(.ref b592)]))
          refine own_dup X592 hx hby at_153 rfl (pc' := 154) rfl ?_
          refine own_aload X592 hx hby at_154 rfl rfl (pc' := 156) rfl ?_
          refine own_aload X592 hx hby at_156 rfl rfl (pc' := 158) rfl ?_
          refine own_iload X592 hx hby at_158 rfl (pc' := 160) rfl ?_
          refine own_callI X592 hx hby hZ (by exact hml) hown rfl (own_w hw 40 rfl) (own_w hw 41 rfl) (own_w hw 39 rfl) (own_w hw 42 rfl) (by decide) e592 1 (by decide) (by decide) (by decide) (by decide) (argsL := [(.ref ri589), .null, (.int (1 : Int32))]) (rest := [(.ref b592)]) (lenOf pd__Ljava_lang_String_Ljava_lang_String_Z_V rfl) rfl (Nat.le_of_eq rfl) (rmT_1RN l Z a0 hw b592 ri589  n0 h592 n0_b592 A592 F592_id F592_name F592_silent) at_160 (pc' := 163) rfl ?_
          intro v595 T595 L595 X595 hQ595
          obtain ⟨rfl, Nq595, K595, E595, FN595, FS595⟩ := hQ595
          have S596_COMPACT_STRINGS := own_stakeep S593_COMPACT_STRINGS K595 (allS (own_plainE A592) all0)
          have V597_b581 := V594_b581.keep K595 (ninS ne_b581_b592 nin0)
          have N595 := Fr.app N589 Nq595
          have O595 := O592.keep K595 (allS n0_b592 all0)
          have Z595 : n0 ≤ T595.heap.size := Nat.le_trans Z592 K595.1
          replace hk := Nat.le_trans hk K595.1
          show GoP p e below Φ (T595.setTop (mkF m 163 #[.val (.int p1), .val (.int p2), .val (.int p3), .val (.int p4), .val (.int (1 : Int32)), .val (.int (1 : Int32)), .val (.int (0 : Int32)), .val (.int (2 : Int32)), .val (.ref b581), .val .null, .val (.ref ri589), .unset, .unset] [(.ref b592)]))
          refine own_astore X595 hx hby at_163 rfl (Ls' := #[.val (.int p1), .val (.int p2), .val (.int p3), .val (.int p4), .val (.int (1 : Int32)), .val (.int (1 : Int32)), .val (.int (0 : Int32)), .val (.int (2 : Int32)), .val (.ref b581), .val .null, .val (.ref ri589), .val (.ref b592), .unset]) rfl (pc' := 165) rfl ?_
          refine own_aload X595 hx hby at_165 rfl rfl (pc' := 167) rfl ?_
          refine own_callV X595 hx hby hZ (by exact hml) hown (own_w hw 55 rfl) (own_w hw 56 rfl) (own_w hw 58 rfl) (own_w hw 57 rfl) (own_w hw 39 rfl) (own_w hw 59 rfl) (by decide) rfl 0 (by decide) (by decide) (by decide) (by decide) (argsL := []) (rest := []) (lenOf pd___Ljava_lang_String_ rfl) rfl (Nat.le_of_eq rfl) E595 (rmL1 l Z a0 hw b592 T595.heap FS595) at_167 (pc' := 170) rfl ?_
          intro v599 T599 L599 X599 hQ599
          obtain ⟨rfl, rfl, e599⟩ := hQ599
          rw [List.append_nil] at X599
          replace e599 : T599.heap = T595.heap := e599
          show GoP p e below Φ (T599.setTop (mkF m 170 #[.val (.int p1), .val (.int p2), .val (.int p3), .val (.int p4), .val (.int (1 : Int32)), .val (.int (1 : Int32)), .val (.int (0 : Int32)), .val (.int (2 : Int32)), .val (.ref b581), .val .null, .val (.ref ri589), .val (.ref b592), .unset] [.null]))
          refine own_astore X599 hx hby at_170 rfl (Ls' := #[.val (.int p1), .val (.int p2), .val (.int p3), .val (.int p4), .val (.int (1 : Int32)), .val (.int (1 : Int32)), .val (.int (0 : Int32)), .val (.int (2 : Int32)), .val (.ref b581), .val .null, .val (.ref ri589), .val (.ref b592), .val .null]) rfl (pc' := 172) rfl ?_
          refine own_iload X599 hx hby at_172 rfl (pc' := 174) rfl ?_
          refine own_ifN X599 hx hby at_174 ((if0 _ _).trans (feq (by decide)).1) (pc' := 177) rfl ?_
          refine own_aload X599 hx hby at_177 rfl rfl (pc' := 179) rfl ?_
          refine own_ifnonnullN X599 hx hby at_179 (pc' := 182) rfl ?_
          refine own_iconst X599 hx hby at_182 (v := (1 : Int32)) rfl (pc' := 183) rfl ?_
          refine own_goto X599 hx hby at_183 (by decide) (pc' := 187) (by decide) ?_
          exact own_retN X599 hx hby (fin _ _ hS) hret (by simp) rfl at_187 (by decide) (by decide) ⟨⟨rfl, N595⟩, (by rw [e599]; exact hk)⟩
      · refine own_ifN X hx hby at_34 ((if0 _ _).trans (feq hc34_551).1) (pc' := 37) rfl ?_
        refine own_iconst X hx hby at_37 (v := (1 : Int32)) rfl (pc' := 38) rfl ?_
        refine own_goto X hx hby at_38 (by decide) (pc' := 42) (by decide) ?_
        refine own_istore X hx hby at_42  (Ls' := #[.val (.int p1), .val (.int p2), .val (.int p3), .val (.int p4), .val (.int (1 : Int32)), .val (.int (1 : Int32)), .val (.int (1 : Int32)), .unset, .unset, .unset, .unset, .unset, .unset]) rfl (pc' := 44) rfl ?_
        refine own_iloadN X hx hby at_44 rfl (pc' := 45) rfl ?_
        refine own_iconst X hx hby at_45 (v := (3 : Int32)) rfl (pc' := 46) rfl ?_
        refine own_iushr X hx hby at_46 (pc' := 47) rfl ?_
        refine own_iconst X hx hby at_47 (v := (3 : Int32)) rfl (pc' := 48) rfl ?_
        refine own_irem X hx hby at_48 (by decide) (pc' := 49) rfl ?_
        refine own_istore X hx hby at_49  (Ls' := #[.val (.int p1), .val (.int p2), .val (.int p3), .val (.int p4), .val (.int (1 : Int32)), .val (.int (1 : Int32)), .val (.int (1 : Int32)), .val (.int (((p1.toUInt32 >>> ((3 : Int32) &&& 31).toUInt32).toInt32) % (3 : Int32))), .unset, .unset, .unset, .unset, .unset]) rfl (pc' := 51) rfl ?_
        have hz := own_three p1
        generalize (((p1.toUInt32 >>> ((3 : Int32) &&& 31).toUInt32).toInt32) % (3 : Int32)) = z at hz ⊢
        rcases hz with rfl | rfl | rfl
        · refine own_iload X hx hby at_51 rfl (pc' := 53) rfl ?_
          refine own_ifN X hx hby at_53 ((if0 _ _).trans (teq (by decide)).2) (pc' := 56) rfl ?_
          refine own_iconst X hx hby at_56 (v := (0 : Int32)) rfl (pc' := 57) rfl ?_
          obtain ⟨T600, h600, k600, X600, e600, E600, A600, st600⟩ := newP X hx hZ (own_w hw 0 rfl) eT (g := (mkF m 57 #[.val (.int p1), .val (.int p2), .val (.int p3), .val (.int p4), .val (.int (1 : Int32)), .val (.int (1 : Int32)), .val (.int (1 : Int32)), .val (.int (0 : Int32)), .unset, .unset, .unset, .unset, .unset] [(.int (0 : Int32))])) rfl (hb hby at_57) rfl (by decide) (cap := 0) (by decide) (by decide) (by decide) (by decide)
          obtain ⟨b600, g600⟩ : ∃ z, z = h0.size := ⟨_, rfl⟩
          have S601_COMPACT_STRINGS := Scs.ext E600
          replace hk := Nat.le_trans hk E600.1
          have Z600 : n0 ≤ h600.size := Nat.le_trans Z0 E600.1
          have n0_b600 : n0 ≤ b600 := g600 ▸ Z0
          have O600 := O0.ext E600
          rw [← g600] at A600 st600
          refine own_step st600 ?_
          have V600 : AV Z h600 b600 .char [] := AV.new A600 (by decide)
          show GoP p e below Φ (T600.setTop (mkF m 59 #[.val (.int p1), .val (.int p2), .val (.int p3), .val (.int p4), .val (.int (1 : Int32)), .val (.int (1 : Int32)), .val (.int (1 : Int32)), .val (.int (0 : Int32)), .unset, .unset, .unset, .unset, .unset] [(.ref b600)]))
          refine own_astore X600 hx hby at_59 rfl (Ls' := #[.val (.int p1), .val (.int p2), .val (.int p3), .val (.int p4), .val (.int (1 : Int32)), .val (.int (1 : Int32)), .val (.int (1 : Int32)), .val (.int (0 : Int32)), .val (.ref b600), .unset, .unset, .unset, .unset]) rfl (pc' := 61) rfl ?_
          refine own_goto X600 hx hby at_61 (by decide) (pc' := 110) (by decide) ?_
          refine own_iload X600 hx hby at_110 rfl (pc' := 112) rfl ?_
          refine own_ifN X600 hx hby at_112 ((if0 _ _).trans (feq (by decide)).1) (pc' := 115) rfl ?_
          refine own_aconst_null X600 hx hby at_115 (pc' := 116) rfl ?_
          refine own_goto X600 hx hby at_116 (by decide) (pc' := 128) (by decide) ?_
          refine own_astore X600 hx hby at_128 rfl (Ls' := #[.val (.int p1), .val (.int p2), .val (.int p3), .val (.int p4), .val (.int (1 : Int32)), .val (.int (1 : Int32)), .val (.int (1 : Int32)), .val (.int (0 : Int32)), .val (.ref b600), .val .null, .unset, .unset, .unset]) rfl (pc' := 130) rfl ?_
          refine own_iload X600 hx hby at_130 rfl (pc' := 132) rfl ?_
          refine own_ifN X600 hx hby at_132 ((if0 _ _).trans (feq (by decide)).1) (pc' := 135) rfl ?_
          refine own_aconst_null X600 hx hby at_135 (pc' := 136) rfl ?_
          refine own_goto X600 hx hby at_136 (by decide) (pc' := 148) (by decide) ?_
          refine own_astore X600 hx hby at_148 rfl (Ls' := #[.val (.int p1), .val (.int p2), .val (.int p3), .val (.int p4), .val (.int (1 : Int32)), .val (.int (1 : Int32)), .val (.int (1 : Int32)), .val (.int (0 : Int32)), .val (.ref b600), .val .null, .val .null, .unset, .unset]) rfl (pc' := 150) rfl ?_
          obtain ⟨T602, h602, X602, e602, E602, A602, D602, -, st602⟩ := newO X600 hx hZ hown (own_w hw 37 rfl) (own_w hw 38 rfl) (own_w hw 39 rfl) e600 (g := (mkF m 150 #[.val (.int p1), .val (.int p2), .val (.int p3), .val (.int p4), .val (.int (1 : Int32)), .val (.int (1 : Int32)), .val (.int (1 : Int32)), .val (.int (0 : Int32)), .val (.ref b600), .val .null, .val .null, .unset, .unset] [])) rfl (hb hby at_150) (by decide) (by decide)
          obtain ⟨b602, g602⟩ : ∃ z, z = h600.size := ⟨_, rfl⟩
          have ne_b600_b602 : b600 ≠ b602 := Nat.ne_of_lt (g602 ▸ V600.lt)
          have S603_COMPACT_STRINGS := S601_COMPACT_STRINGS.ext E602
          have V604_b600 := V600.ext E602
          replace hk := Nat.le_trans hk E602.1
          have Z602 : n0 ≤ h602.size := Nat.le_trans Z600 E602.1
          have n0_b602 : n0 ≤ b602 := g602 ▸ Z600
          have O602 := O600.ext E602
          rw [← g602] at A602 D602 st602
          refine own_step st602 ?_
          have F602_id : Fld Z h602 b602 "com/example/tracemass/tracemass/nets/PetriNet$TransitionNode" "id" "Ljava/lang/String;" .null := D602 (Or.inr (own_w hw 50 rfl)) (ty := (.object "java/lang/String")) (by decide)
          have F602_name : Fld Z h602 b602 "com/example/tracemass/tracemass/nets/PetriNet$TransitionNode" "name" "Ljava/lang/String;" .null := D602 (Or.inr (own_w hw 52 rfl)) (ty := (.object "java/lang/String")) (by decide)
          have F602_silent : Fld Z h602 b602 "com/example/tracemass/tracemass/nets/PetriNet$TransitionNode" "silent" "Z" (.int (0 : Int32)) := D602 (Or.inr (own_w hw 54 rfl)) (ty := .boolean) (by decide)
          show GoP p e below Φ (T602.setTop (mkF m 153 #[.val (.int p1), .val (.int p2), .val (.int p3), .val (.int p4), .val (.int (1 : Int32)), .val (.int (1 : Int32)), .val (.int (1 : Int32)), .val (.int (0 : Int32)), .val (.ref b600), .val .null, .val .null, .unset, .unset] [(.ref b602)]))
          refine own_dup X602 hx hby at_153 rfl (pc' := 154) rfl ?_
          refine own_aload X602 hx hby at_154 rfl rfl (pc' := 156) rfl ?_
          refine own_aload X602 hx hby at_156 rfl rfl (pc' := 158) rfl ?_
          refine own_iload X602 hx hby at_158 rfl (pc' := 160) rfl ?_
          refine own_callI X602 hx hby hZ (by exact hml) hown rfl (own_w hw 40 rfl) (own_w hw 41 rfl) (own_w hw 39 rfl) (own_w hw 42 rfl) (by decide) e602 1 (by decide) (by decide) (by decide) (by decide) (argsL := [.null, .null, (.int (1 : Int32))]) (rest := [(.ref b602)]) (lenOf pd__Ljava_lang_String_Ljava_lang_String_Z_V rfl) rfl (Nat.le_of_eq rfl) (rmT_1NN l Z a0 hw b602   n0 h602 n0_b602 A602 F602_id F602_name F602_silent) at_160 (pc' := 163) rfl ?_
          intro v605 T605 L605 X605 hQ605
          obtain ⟨rfl, Nq605, K605, E605, FN605, FS605⟩ := hQ605
          have S606_COMPACT_STRINGS := own_stakeep S603_COMPACT_STRINGS K605 (allS (own_plainE A602) all0)
          have V607_b600 := V604_b600.keep K605 (ninS ne_b600_b602 nin0)
          have N605 := Fr.app N0 Nq605
          have O605 := O602.keep K605 (allS n0_b602 all0)
          have Z605 : n0 ≤ T605.heap.size := Nat.le_trans Z602 K605.1
          replace hk := Nat.le_trans hk K605.1
          show GoP p e below Φ (T605.setTop (mkF m 163 #[.val (.int p1), .val (.int p2), .val (.int p3), .val (.int p4), .val (.int (1 : Int32)), .val (.int (1 : Int32)), .val (.int (1 : Int32)), .val (.int (0 : Int32)), .val (.ref b600), .val .null, .val .null, .unset, .unset] [(.ref b602)]))
          refine own_astore X605 hx hby at_163 rfl (Ls' := #[.val (.int p1), .val (.int p2), .val (.int p3), .val (.int p4), .val (.int (1 : Int32)), .val (.int (1 : Int32)), .val (.int (1 : Int32)), .val (.int (0 : Int32)), .val (.ref b600), .val .null, .val .null, .val (.ref b602), .unset]) rfl (pc' := 165) rfl ?_
          refine own_aload X605 hx hby at_165 rfl rfl (pc' := 167) rfl ?_
          refine own_callV X605 hx hby hZ (by exact hml) hown (own_w hw 55 rfl) (own_w hw 56 rfl) (own_w hw 58 rfl) (own_w hw 57 rfl) (own_w hw 39 rfl) (own_w hw 59 rfl) (by decide) rfl 0 (by decide) (by decide) (by decide) (by decide) (argsL := []) (rest := []) (lenOf pd___Ljava_lang_String_ rfl) rfl (Nat.le_of_eq rfl) E605 (rmL1 l Z a0 hw b602 T605.heap FS605) at_167 (pc' := 170) rfl ?_
          intro v609 T609 L609 X609 hQ609
          obtain ⟨rfl, rfl, e609⟩ := hQ609
          rw [List.append_nil] at X609
          replace e609 : T609.heap = T605.heap := e609
          show GoP p e below Φ (T609.setTop (mkF m 170 #[.val (.int p1), .val (.int p2), .val (.int p3), .val (.int p4), .val (.int (1 : Int32)), .val (.int (1 : Int32)), .val (.int (1 : Int32)), .val (.int (0 : Int32)), .val (.ref b600), .val .null, .val .null, .val (.ref b602), .unset] [.null]))
          refine own_astore X609 hx hby at_170 rfl (Ls' := #[.val (.int p1), .val (.int p2), .val (.int p3), .val (.int p4), .val (.int (1 : Int32)), .val (.int (1 : Int32)), .val (.int (1 : Int32)), .val (.int (0 : Int32)), .val (.ref b600), .val .null, .val .null, .val (.ref b602), .val .null]) rfl (pc' := 172) rfl ?_
          refine own_iload X609 hx hby at_172 rfl (pc' := 174) rfl ?_
          refine own_ifN X609 hx hby at_174 ((if0 _ _).trans (feq (by decide)).1) (pc' := 177) rfl ?_
          refine own_aload X609 hx hby at_177 rfl rfl (pc' := 179) rfl ?_
          refine own_ifnonnullN X609 hx hby at_179 (pc' := 182) rfl ?_
          refine own_iconst X609 hx hby at_182 (v := (1 : Int32)) rfl (pc' := 183) rfl ?_
          refine own_goto X609 hx hby at_183 (by decide) (pc' := 187) (by decide) ?_
          exact own_retN X609 hx hby (fin _ _ hS) hret (by simp) rfl at_187 (by decide) (by decide) ⟨⟨rfl, N605⟩, (by rw [e609]; exact hk)⟩
        · refine own_iload X hx hby at_51 rfl (pc' := 53) rfl ?_
          refine own_ifY X hx hby at_53 ((if0 _ _).trans (feq (by decide)).2) (by decide) (pc' := 64) (by decide) ?_
          refine own_iload X hx hby at_64 rfl (pc' := 66) rfl ?_
          refine own_iconst X hx hby at_66 (v := (1 : Int32)) rfl (pc' := 67) rfl ?_
          refine own_icmpN X hx hby at_67 (teq (by decide)).2 (pc' := 70) rfl ?_
          refine own_iconst X hx hby at_70 (v := (1 : Int32)) rfl (pc' := 71) rfl ?_
          obtain ⟨T610, h610, k610, X610, e610, E610, A610, st610⟩ := newP X hx hZ (own_w hw 0 rfl) eT (g := (mkF m 71 #[.val (.int p1), .val (.int p2), .val (.int p3), .val (.int p4), .val (.int (1 : Int32)), .val (.int (1 : Int32)), .val (.int (1 : Int32)), .val (.int (1 : Int32)), .unset, .unset, .unset, .unset, .unset] [(.int (1 : Int32))])) rfl (hb hby at_71) rfl (by decide) (cap := 1) (by decide) (by decide) (by decide) (by decide)
          obtain ⟨b610, g610⟩ : ∃ z, z = h0.size := ⟨_, rfl⟩
          have S611_COMPACT_STRINGS := Scs.ext E610
          replace hk := Nat.le_trans hk E610.1
          have Z610 : n0 ≤ h610.size := Nat.le_trans Z0 E610.1
          have n0_b610 : n0 ≤ b610 := g610 ▸ Z0
          have O610 := O0.ext E610
          rw [← g610] at A610 st610
          refine own_step st610 ?_
          have V610 : AV Z h610 b610 .char [(.int (0 : Int32))] := AV.new A610 (by decide)
          show GoP p e below Φ (T610.setTop (mkF m 73 #[.val (.int p1), .val (.int p2), .val (.int p3), .val (.int p4), .val (.int (1 : Int32)), .val (.int (1 : Int32)), .val (.int (1 : Int32)), .val (.int (1 : Int32)), .unset, .unset, .unset, .unset, .unset] [(.ref b610)]))
          refine own_dup X610 hx hby at_73 rfl (pc' := 74) rfl ?_
          refine own_iconst X610 hx hby at_74 (v := (0 : Int32)) rfl (pc' := 75) rfl ?_
          refine own_iloadN X610 hx hby at_75 rfl (pc' := 76) rfl ?_
          refine own_sipush X610 hx hby at_76 (v := (255 : Int32)) rfl (pc' := 79) rfl ?_
          refine own_iand X610 hx hby at_79 (pc' := 80) rfl ?_
          refine own_i2c X610 hx hby at_80 (pc' := 81) rfl ?_
          obtain ⟨y2, ey2, hy2⟩ : ∃ x : Int32, x = (nar .char ((p2 &&& (255 : Int32)).toUInt32.toUInt16.toUInt32.toInt32)) ∧ ¬ (255 : Int32) < x := ⟨_, rfl, own_chr p2⟩
          refine own_castore X610 hx hby hZ e610 V610 (by decide) (Nat.le_of_ble_eq_true rfl) at_81 (pc' := 82) rfl ?_
          intro T612 h612 X612 e612 W612 V612
          replace V612 : AV Z h612 b610 .char [(.int (nar .char ((p2 &&& (255 : Int32)).toUInt32.toUInt16.toUInt32.toInt32)))] := V612
          have S613_COMPACT_STRINGS := S611_COMPACT_STRINGS.wr W612
          replace hk := W612.size.symm ▸ hk
          have Z612 : n0 ≤ h612.size := by rw [W612.size]; exact Z610
          have O612 := O610.wr W612 n0_b610
          have N612 := Fr.snoc X612 N0 n0_b610
          rw [← ey2] at V612
          refine own_astore X612 hx hby at_82 rfl (Ls' := #[.val (.int p1), .val (.int p2), .val (.int p3), .val (.int p4), .val (.int (1 : Int32)), .val (.int (1 : Int32)), .val (.int (1 : Int32)), .val (.int (1 : Int32)), .val (.ref b610), .unset, .unset, .unset, .unset]) rfl (pc' := 84) rfl ?_
          refine own_goto X612 hx hby at_84 (by decide) (pc' := 110) (by decide) ?_
          refine own_iload X612 hx hby at_110 rfl (pc' := 112) rfl ?_
          refine own_ifN X612 hx hby at_112 ((if0 _ _).trans (feq (by decide)).1) (pc' := 115) rfl ?_
          refine own_aconst_null X612 hx hby at_115 (pc' := 116) rfl ?_
          refine own_goto X612 hx hby at_116 (by decide) (pc' := 128) (by decide) ?_
          refine own_astore X612 hx hby at_128 rfl (Ls' := #[.val (.int p1), .val (.int p2), .val (.int p3), .val (.int p4), .val (.int (1 : Int32)), .val (.int (1 : Int32)), .val (.int (1 : Int32)), .val (.int (1 : Int32)), .val (.ref b610), .val .null, .unset, .unset, .unset]) rfl (pc' := 130) rfl ?_
          refine own_iload X612 hx hby at_130 rfl (pc' := 132) rfl ?_
          refine own_ifN X612 hx hby at_132 ((if0 _ _).trans (feq (by decide)).1) (pc' := 135) rfl ?_
          refine own_aconst_null X612 hx hby at_135 (pc' := 136) rfl ?_
          refine own_goto X612 hx hby at_136 (by decide) (pc' := 148) (by decide) ?_
          refine own_astore X612 hx hby at_148 rfl (Ls' := #[.val (.int p1), .val (.int p2), .val (.int p3), .val (.int p4), .val (.int (1 : Int32)), .val (.int (1 : Int32)), .val (.int (1 : Int32)), .val (.int (1 : Int32)), .val (.ref b610), .val .null, .val .null, .unset, .unset]) rfl (pc' := 150) rfl ?_
          obtain ⟨T615, h615, X615, e615, E615, A615, D615, -, st615⟩ := newO X612 hx hZ hown (own_w hw 37 rfl) (own_w hw 38 rfl) (own_w hw 39 rfl) e612 (g := (mkF m 150 #[.val (.int p1), .val (.int p2), .val (.int p3), .val (.int p4), .val (.int (1 : Int32)), .val (.int (1 : Int32)), .val (.int (1 : Int32)), .val (.int (1 : Int32)), .val (.ref b610), .val .null, .val .null, .unset, .unset] [])) rfl (hb hby at_150) (by decide) (by decide)
          obtain ⟨b615, g615⟩ : ∃ z, z = h612.size := ⟨_, rfl⟩
          have ne_b610_b615 : b610 ≠ b615 := Nat.ne_of_lt (g615 ▸ V612.lt)
          have S616_COMPACT_STRINGS := S613_COMPACT_STRINGS.ext E615
          have V617_b610 := V612.ext E615
          replace hk := Nat.le_trans hk E615.1
          have Z615 : n0 ≤ h615.size := Nat.le_trans Z612 E615.1
          have n0_b615 : n0 ≤ b615 := g615 ▸ Z612
          have O615 := O612.ext E615
          rw [← g615] at A615 D615 st615
          refine own_step st615 ?_
          have F615_id : Fld Z h615 b615 "com/example/tracemass/tracemass/nets/PetriNet$TransitionNode" "id" "Ljava/lang/String;" .null := D615 (Or.inr (own_w hw 50 rfl)) (ty := (.object "java/lang/String")) (by decide)
          have F615_name : Fld Z h615 b615 "com/example/tracemass/tracemass/nets/PetriNet$TransitionNode" "name" "Ljava/lang/String;" .null := D615 (Or.inr (own_w hw 52 rfl)) (ty := (.object "java/lang/String")) (by decide)
          have F615_silent : Fld Z h615 b615 "com/example/tracemass/tracemass/nets/PetriNet$TransitionNode" "silent" "Z" (.int (0 : Int32)) := D615 (Or.inr (own_w hw 54 rfl)) (ty := .boolean) (by decide)
          show GoP p e below Φ (T615.setTop (mkF m 153 #[.val (.int p1), .val (.int p2), .val (.int p3), .val (.int p4), .val (.int (1 : Int32)), .val (.int (1 : Int32)), .val (.int (1 : Int32)), .val (.int (1 : Int32)), .val (.ref b610), .val .null, .val .null, .unset, .unset] [(.ref b615)]))
          refine own_dup X615 hx hby at_153 rfl (pc' := 154) rfl ?_
          refine own_aload X615 hx hby at_154 rfl rfl (pc' := 156) rfl ?_
          refine own_aload X615 hx hby at_156 rfl rfl (pc' := 158) rfl ?_
          refine own_iload X615 hx hby at_158 rfl (pc' := 160) rfl ?_
          refine own_callI X615 hx hby hZ (by exact hml) hown rfl (own_w hw 40 rfl) (own_w hw 41 rfl) (own_w hw 39 rfl) (own_w hw 42 rfl) (by decide) e615 1 (by decide) (by decide) (by decide) (by decide) (argsL := [.null, .null, (.int (1 : Int32))]) (rest := [(.ref b615)]) (lenOf pd__Ljava_lang_String_Ljava_lang_String_Z_V rfl) rfl (Nat.le_of_eq rfl) (rmT_1NN l Z a0 hw b615   n0 h615 n0_b615 A615 F615_id F615_name F615_silent) at_160 (pc' := 163) rfl ?_
          intro v618 T618 L618 X618 hQ618
          obtain ⟨rfl, Nq618, K618, E618, FN618, FS618⟩ := hQ618
          have S619_COMPACT_STRINGS := own_stakeep S616_COMPACT_STRINGS K618 (allS (own_plainE A615) all0)
          have V620_b610 := V617_b610.keep K618 (ninS ne_b610_b615 nin0)
          have N618 := Fr.app N612 Nq618
          have O618 := O615.keep K618 (allS n0_b615 all0)
          have Z618 : n0 ≤ T618.heap.size := Nat.le_trans Z615 K618.1
          replace hk := Nat.le_trans hk K618.1
          show GoP p e below Φ (T618.setTop (mkF m 163 #[.val (.int p1), .val (.int p2), .val (.int p3), .val (.int p4), .val (.int (1 : Int32)), .val (.int (1 : Int32)), .val (.int (1 : Int32)), .val (.int (1 : Int32)), .val (.ref b610), .val .null, .val .null, .unset, .unset] [(.ref b615)]))
          refine own_astore X618 hx hby at_163 rfl (Ls' := #[.val (.int p1), .val (.int p2), .val (.int p3), .val (.int p4), .val (.int (1 : Int32)), .val (.int (1 : Int32)), .val (.int (1 : Int32)), .val (.int (1 : Int32)), .val (.ref b610), .val .null, .val .null, .val (.ref b615), .unset]) rfl (pc' := 165) rfl ?_
          refine own_aload X618 hx hby at_165 rfl rfl (pc' := 167) rfl ?_
          refine own_callV X618 hx hby hZ (by exact hml) hown (own_w hw 55 rfl) (own_w hw 56 rfl) (own_w hw 58 rfl) (own_w hw 57 rfl) (own_w hw 39 rfl) (own_w hw 59 rfl) (by decide) rfl 0 (by decide) (by decide) (by decide) (by decide) (argsL := []) (rest := []) (lenOf pd___Ljava_lang_String_ rfl) rfl (Nat.le_of_eq rfl) E618 (rmL1 l Z a0 hw b615 T618.heap FS618) at_167 (pc' := 170) rfl ?_
          intro v622 T622 L622 X622 hQ622
          obtain ⟨rfl, rfl, e622⟩ := hQ622
          rw [List.append_nil] at X622
          replace e622 : T622.heap = T618.heap := e622
          show GoP p e below Φ (T622.setTop (mkF m 170 #[.val (.int p1), .val (.int p2), .val (.int p3), .val (.int p4), .val (.int (1 : Int32)), .val (.int (1 : Int32)), .val (.int (1 : Int32)), .val (.int (1 : Int32)), .val (.ref b610), .val .null, .val .null, .val (.ref b615), .unset] [.null]))
          refine own_astore X622 hx hby at_170 rfl (Ls' := #[.val (.int p1), .val (.int p2), .val (.int p3), .val (.int p4), .val (.int (1 : Int32)), .val (.int (1 : Int32)), .val (.int (1 : Int32)), .val (.int (1 : Int32)), .val (.ref b610), .val .null, .val .null, .val (.ref b615), .val .null]) rfl (pc' := 172) rfl ?_
          refine own_iload X622 hx hby at_172 rfl (pc' := 174) rfl ?_
          refine own_ifN X622 hx hby at_174 ((if0 _ _).trans (feq (by decide)).1) (pc' := 177) rfl ?_
          refine own_aload X622 hx hby at_177 rfl rfl (pc' := 179) rfl ?_
          refine own_ifnonnullN X622 hx hby at_179 (pc' := 182) rfl ?_
          refine own_iconst X622 hx hby at_182 (v := (1 : Int32)) rfl (pc' := 183) rfl ?_
          refine own_goto X622 hx hby at_183 (by decide) (pc' := 187) (by decide) ?_
          exact own_retN X622 hx hby (fin _ _ hS) hret (by simp) rfl at_187 (by decide) (by decide) ⟨⟨rfl, N618⟩, (by rw [e622]; exact hk)⟩
        · refine own_iload X hx hby at_51 rfl (pc' := 53) rfl ?_
          refine own_ifY X hx hby at_53 ((if0 _ _).trans (feq (by decide)).2) (by decide) (pc' := 64) (by decide) ?_
          refine own_iload X hx hby at_64 rfl (pc' := 66) rfl ?_
          refine own_iconst X hx hby at_66 (v := (1 : Int32)) rfl (pc' := 67) rfl ?_
          refine own_icmpY X hx hby at_67 (feq (by decide)).2 (by decide) (pc' := 87) (by decide) ?_
          refine own_iconst X hx hby at_87 (v := (2 : Int32)) rfl (pc' := 88) rfl ?_
          obtain ⟨T623, h623, k623, X623, e623, E623, A623, st623⟩ := newP X hx hZ (own_w hw 0 rfl) eT (g := (mkF m 88 #[.val (.int p1), .val (.int p2), .val (.int p3), .val (.int p4), .val (.int (1 : Int32)), .val (.int (1 : Int32)), .val (.int (1 : Int32)), .val (.int (2 : Int32)), .unset, .unset, .unset, .unset, .unset] [(.int (2 : Int32))])) rfl (hb hby at_88) rfl (by decide) (cap := 2) (by decide) (by decide) (by decide) (by decide)
          obtain ⟨b623, g623⟩ : ∃ z, z = h0.size := ⟨_, rfl⟩
          have S624_COMPACT_STRINGS := Scs.ext E623
          replace hk := Nat.le_trans hk E623.1
          have Z623 : n0 ≤ h623.size := Nat.le_trans Z0 E623.1
          have n0_b623 : n0 ≤ b623 := g623 ▸ Z0
          have O623 := O0.ext E623
          rw [← g623] at A623 st623
          refine own_step st623 ?_
          have V623 : AV Z h623 b623 .char [(.int (0 : Int32)), (.int (0 : Int32))] := AV.new A623 (by decide)
          show GoP p e below Φ (T623.setTop (mkF m 90 #[.val (.int p1), .val (.int p2), .val (.int p3), .val (.int p4), .val (.int (1 : Int32)), .val (.int (1 : Int32)), .val (.int (1 : Int32)), .val (.int (2 : Int32)), .unset, .unset, .unset, .unset, .unset] [(.ref b623)]))
          refine own_dup X623 hx hby at_90 rfl (pc' := 91) rfl ?_
          refine own_iconst X623 hx hby at_91 (v := (0 : Int32)) rfl (pc' := 92) rfl ?_
          refine own_iloadN X623 hx hby at_92 rfl (pc' := 93) rfl ?_
          refine own_sipush X623 hx hby at_93 (v := (255 : Int32)) rfl (pc' := 96) rfl ?_
          refine own_iand X623 hx hby at_96 (pc' := 97) rfl ?_
          refine own_i2c X623 hx hby at_97 (pc' := 98) rfl ?_
          obtain ⟨y2, ey2, hy2⟩ : ∃ x : Int32, x = (nar .char ((p2 &&& (255 : Int32)).toUInt32.toUInt16.toUInt32.toInt32)) ∧ ¬ (255 : Int32) < x := ⟨_, rfl, own_chr p2⟩
          refine own_castore X623 hx hby hZ e623 V623 (by decide) (Nat.le_of_ble_eq_true rfl) at_98 (pc' := 99) rfl ?_
          intro T625 h625 X625 e625 W625 V625
          replace V625 : AV Z h625 b623 .char [(.int (nar .char ((p2 &&& (255 : Int32)).toUInt32.toUInt16.toUInt32.toInt32))), (.int (0 : Int32))] := V625
          have S626_COMPACT_STRINGS := S624_COMPACT_STRINGS.wr W625
          replace hk := W625.size.symm ▸ hk
          have Z625 : n0 ≤ h625.size := by rw [W625.size]; exact Z623
          have O625 := O623.wr W625 n0_b623
          have N625 := Fr.snoc X625 N0 n0_b623
          rw [← ey2] at V625
          refine own_dup X625 hx hby at_99 rfl (pc' := 100) rfl ?_
          refine own_iconst X625 hx hby at_100 (v := (1 : Int32)) rfl (pc' := 101) rfl ?_
          refine own_iloadN X625 hx hby at_101 rfl (pc' := 102) rfl ?_
          refine own_sipush X625 hx hby at_102 (v := (255 : Int32)) rfl (pc' := 105) rfl ?_
          refine own_iand X625 hx hby at_105 (pc' := 106) rfl ?_
          refine own_i2c X625 hx hby at_106 (pc' := 107) rfl ?_
          obtain ⟨y3, ey3, hy3⟩ : ∃ x : Int32, x = (nar .char ((p3 &&& (255 : Int32)).toUInt32.toUInt16.toUInt32.toInt32)) ∧ ¬ (255 : Int32) < x := ⟨_, rfl, own_chr p3⟩
          refine own_castore X625 hx hby hZ e625 V625 (by decide) (Nat.le_of_ble_eq_true rfl) at_107 (pc' := 108) rfl ?_
          intro T628 h628 X628 e628 W628 V628
          replace V628 : AV Z h628 b623 .char [(.int y2), (.int (nar .char ((p3 &&& (255 : Int32)).toUInt32.toUInt16.toUInt32.toInt32)))] := V628
          have S629_COMPACT_STRINGS := S626_COMPACT_STRINGS.wr W628
          replace hk := W628.size.symm ▸ hk
          have Z628 : n0 ≤ h628.size := by rw [W628.size]; exact Z625
          have O628 := O625.wr W628 n0_b623
          have N628 := Fr.snoc X628 N625 n0_b623
          rw [← ey3] at V628
          refine own_astore X628 hx hby at_108 rfl (Ls' := #[.val (.int p1), .val (.int p2), .val (.int p3), .val (.int p4), .val (.int (1 : Int32)), .val (.int (1 : Int32)), .val (.int (1 : Int32)), .val (.int (2 : Int32)), .val (.ref b623), .unset, .unset, .unset, .unset]) rfl (pc' := 110) rfl ?_
          refine own_iload X628 hx hby at_110 rfl (pc' := 112) rfl ?_
          refine own_ifN X628 hx hby at_112 ((if0 _ _).trans (feq (by decide)).1) (pc' := 115) rfl ?_
          refine own_aconst_null X628 hx hby at_115 (pc' := 116) rfl ?_
          refine own_goto X628 hx hby at_116 (by decide) (pc' := 128) (by decide) ?_
          refine own_astore X628 hx hby at_128 rfl (Ls' := #[.val (.int p1), .val (.int p2), .val (.int p3), .val (.int p4), .val (.int (1 : Int32)), .val (.int (1 : Int32)), .val (.int (1 : Int32)), .val (.int (2 : Int32)), .val (.ref b623), .val .null, .unset, .unset, .unset]) rfl (pc' := 130) rfl ?_
          refine own_iload X628 hx hby at_130 rfl (pc' := 132) rfl ?_
          refine own_ifN X628 hx hby at_132 ((if0 _ _).trans (feq (by decide)).1) (pc' := 135) rfl ?_
          refine own_aconst_null X628 hx hby at_135 (pc' := 136) rfl ?_
          refine own_goto X628 hx hby at_136 (by decide) (pc' := 148) (by decide) ?_
          refine own_astore X628 hx hby at_148 rfl (Ls' := #[.val (.int p1), .val (.int p2), .val (.int p3), .val (.int p4), .val (.int (1 : Int32)), .val (.int (1 : Int32)), .val (.int (1 : Int32)), .val (.int (2 : Int32)), .val (.ref b623), .val .null, .val .null, .unset, .unset]) rfl (pc' := 150) rfl ?_
          obtain ⟨T631, h631, X631, e631, E631, A631, D631, -, st631⟩ := newO X628 hx hZ hown (own_w hw 37 rfl) (own_w hw 38 rfl) (own_w hw 39 rfl) e628 (g := (mkF m 150 #[.val (.int p1), .val (.int p2), .val (.int p3), .val (.int p4), .val (.int (1 : Int32)), .val (.int (1 : Int32)), .val (.int (1 : Int32)), .val (.int (2 : Int32)), .val (.ref b623), .val .null, .val .null, .unset, .unset] [])) rfl (hb hby at_150) (by decide) (by decide)
          obtain ⟨b631, g631⟩ : ∃ z, z = h628.size := ⟨_, rfl⟩
          have ne_b623_b631 : b623 ≠ b631 := Nat.ne_of_lt (g631 ▸ V628.lt)
          have S632_COMPACT_STRINGS := S629_COMPACT_STRINGS.ext E631
          have V633_b623 := V628.ext E631
          replace hk := Nat.le_trans hk E631.1
          have Z631 : n0 ≤ h631.size := Nat.le_trans Z628 E631.1
          have n0_b631 : n0 ≤ b631 := g631 ▸ Z628
          have O631 := O628.ext E631
          rw [← g631] at A631 D631 st631
          refine own_step st631 ?_
          have F631_id : Fld Z h631 b631 "com/example/tracemass/tracemass/nets/PetriNet$TransitionNode" "id" "Ljava/lang/String;" .null := D631 (Or.inr (own_w hw 50 rfl)) (ty := (.object "java/lang/String")) (by decide)
          have F631_name : Fld Z h631 b631 "com/example/tracemass/tracemass/nets/PetriNet$TransitionNode" "name" "Ljava/lang/String;" .null := D631 (Or.inr (own_w hw 52 rfl)) (ty := (.object "java/lang/String")) (by decide)
          have F631_silent : Fld Z h631 b631 "com/example/tracemass/tracemass/nets/PetriNet$TransitionNode" "silent" "Z" (.int (0 : Int32)) := D631 (Or.inr (own_w hw 54 rfl)) (ty := .boolean) (by decide)
          show GoP p e below Φ (T631.setTop (mkF m 153 #[.val (.int p1), .val (.int p2), .val (.int p3), .val (.int p4), .val (.int (1 : Int32)), .val (.int (1 : Int32)), .val (.int (1 : Int32)), .val (.int (2 : Int32)), .val (.ref b623), .val .null, .val .null, .unset, .unset] [(.ref b631)]))
          refine own_dup X631 hx hby at_153 rfl (pc' := 154) rfl ?_
          refine own_aload X631 hx hby at_154 rfl rfl (pc' := 156) rfl ?_
          refine own_aload X631 hx hby at_156 rfl rfl (pc' := 158) rfl ?_
          refine own_iload X631 hx hby at_158 rfl (pc' := 160) rfl ?_
          refine own_callI X631 hx hby hZ (by exact hml) hown rfl (own_w hw 40 rfl) (own_w hw 41 rfl) (own_w hw 39 rfl) (own_w hw 42 rfl) (by decide) e631 1 (by decide) (by decide) (by decide) (by decide) (argsL := [.null, .null, (.int (1 : Int32))]) (rest := [(.ref b631)]) (lenOf pd__Ljava_lang_String_Ljava_lang_String_Z_V rfl) rfl (Nat.le_of_eq rfl) (rmT_1NN l Z a0 hw b631   n0 h631 n0_b631 A631 F631_id F631_name F631_silent) at_160 (pc' := 163) rfl ?_
          intro v634 T634 L634 X634 hQ634
          obtain ⟨rfl, Nq634, K634, E634, FN634, FS634⟩ := hQ634
          have S635_COMPACT_STRINGS := own_stakeep S632_COMPACT_STRINGS K634 (allS (own_plainE A631) all0)
          have V636_b623 := V633_b623.keep K634 (ninS ne_b623_b631 nin0)
          have N634 := Fr.app N628 Nq634
          have O634 := O631.keep K634 (allS n0_b631 all0)
          have Z634 : n0 ≤ T634.heap.size := Nat.le_trans Z631 K634.1
          replace hk := Nat.le_trans hk K634.1
          show GoP p e below Φ (T634.setTop (mkF m 163 #[.val (.int p1), .val (.int p2), .val (.int p3), .val (.int p4), .val (.int (1 : Int32)), .val (.int (1 : Int32)), .val (.int (1 : Int32)), .val (.int (2 : Int32)), .val (.ref b623), .val .null, .val .null, .unset, .unset] [(.ref b631)]))
          refine own_astore X634 hx hby at_163 rfl (Ls' := #[.val (.int p1), .val (.int p2), .val (.int p3), .val (.int p4), .val (.int (1 : Int32)), .val (.int (1 : Int32)), .val (.int (1 : Int32)), .val (.int (2 : Int32)), .val (.ref b623), .val .null, .val .null, .val (.ref b631), .unset]) rfl (pc' := 165) rfl ?_
          refine own_aload X634 hx hby at_165 rfl rfl (pc' := 167) rfl ?_
          refine own_callV X634 hx hby hZ (by exact hml) hown (own_w hw 55 rfl) (own_w hw 56 rfl) (own_w hw 58 rfl) (own_w hw 57 rfl) (own_w hw 39 rfl) (own_w hw 59 rfl) (by decide) rfl 0 (by decide) (by decide) (by decide) (by decide) (argsL := []) (rest := []) (lenOf pd___Ljava_lang_String_ rfl) rfl (Nat.le_of_eq rfl) E634 (rmL1 l Z a0 hw b631 T634.heap FS634) at_167 (pc' := 170) rfl ?_
          intro v638 T638 L638 X638 hQ638
          obtain ⟨rfl, rfl, e638⟩ := hQ638
          rw [List.append_nil] at X638
          replace e638 : T638.heap = T634.heap := e638
          show GoP p e below Φ (T638.setTop (mkF m 170 #[.val (.int p1), .val (.int p2), .val (.int p3), .val (.int p4), .val (.int (1 : Int32)), .val (.int (1 : Int32)), .val (.int (1 : Int32)), .val (.int (2 : Int32)), .val (.ref b623), .val .null, .val .null, .val (.ref b631), .unset] [.null]))
          refine own_astore X638 hx hby at_170 rfl (Ls' := #[.val (.int p1), .val (.int p2), .val (.int p3), .val (.int p4), .val (.int (1 : Int32)), .val (.int (1 : Int32)), .val (.int (1 : Int32)), .val (.int (2 : Int32)), .val (.ref b623), .val .null, .val .null, .val (.ref b631), .val .null]) rfl (pc' := 172) rfl ?_
          refine own_iload X638 hx hby at_172 rfl (pc' := 174) rfl ?_
          refine own_ifN X638 hx hby at_174 ((if0 _ _).trans (feq (by decide)).1) (pc' := 177) rfl ?_
          refine own_aload X638 hx hby at_177 rfl rfl (pc' := 179) rfl ?_
          refine own_ifnonnullN X638 hx hby at_179 (pc' := 182) rfl ?_
          refine own_iconst X638 hx hby at_182 (v := (1 : Int32)) rfl (pc' := 183) rfl ?_
          refine own_goto X638 hx hby at_183 (by decide) (pc' := 187) (by decide) ?_
          exact own_retN X638 hx hby (fin _ _ hS) hret (by simp) rfl at_187 (by decide) (by decide) ⟨⟨rfl, N634⟩, (by rw [e638]; exact hk)⟩
set_option maxRecDepth 65536 in
set_option maxHeartbeats 40000000 in
theorem comes_1 {Post : Tables → Env → Array Value → State → Outcome → State → Prop} (hpost : ∀ tb e args s v u, (limb_1_1.after args s (.returned v) u = true ∧ limb_1_2.after args s (.returned v) u = true ∧ True) → ReturnedEndW s (.returned v) u (Jvm.fieldLocs frame_1_writes args s ++ Jvm.arrayLocs frame_1_arrays args s ++ Jvm.staticLocs frame_1_statics s) 32 1152 → Post tb e args s (.returned v) u) :
    ArmFor flags0 classFile x code maxLocals ret World_1 tables_1 room_1 Calls_1 rest_1 Pre_1 Post := by
  intro l hfl _ _ p e ha hc hk s m args below hf hA hF happ hP
  obtain ⟨hcalls, hrest, hpre⟩ := hP
  obtain ⟨-, -, -, hnamed, -, -, -, hat⟩ := (Spec.applies_iff hf).mp happ
  obtain ⟨hg, hn⟩ := and_e (Cond.before_iff.mp (show (Jvm.Cond.and given_1 narrow_1).before args s = true from hpre))
  obtain ⟨g0, hg⟩ := and_e hg
  obtain ⟨w0, w1, w2, w3, rfl⟩ : ∃ w0 w1 w2 w3 : Value, args = #[w0, w1, w2, w3] := by
    have hs : args.size = 4 := by simpa [Cond.value, given_1] using g0
    obtain ⟨L⟩ := args
    match L, hs with
    | [w0, w1, w2, w3], _ => exact ⟨w0, w1, w2, w3, rfl⟩
  obtain ⟨q0, hg⟩ := and_e hg
  obtain ⟨q1, hg⟩ := and_e hg
  obtain ⟨q2, hg⟩ := and_e hg
  have q3 := hg
  have hw := fun d (hd : d ∈ tables_1) => atoms_spec (ws := Jvm.Cond.code x code maxLocals ret :: tables_1) hat d (List.mem_cons_of_mem _ hd)
  have hfit : Fit s := fun {y c} hc i hi => by
    obtain ⟨ha, rfl⟩ := Array.getElem?_eq_some_iff.mp hc
    have q := List.all_eq_true.mp ((Array.all_eq_true_iff_forall_mem.mp hF) _ (Array.getElem_mem ha)) i (List.mem_range.mpr hi)
    simpa [Array.getElem?_eq_getElem hi] using q
  have hsets := (atoms_of jdkStatics_1 (own := restOwn_1) (by rw [← rest_1_c_eq]; exact hrest)).1
  obtain ⟨i0, f0⟩ := is_v q0
  obtain rfl : w0 = (.int i0) := Option.some.inj f0
  obtain ⟨i1, f1⟩ := is_v q1
  obtain rfl : w1 = (.int i1) := Option.some.inj f1
  obtain ⟨i2, f2⟩ := is_v q2
  obtain rfl : w2 = (.int i2) := Option.some.inj f2
  obtain ⟨i3, f3⟩ := is_v q3
  obtain rfl : w3 = (.int i3) := Option.some.inj f3
  obtain ⟨cs, ecs⟩ := is_v (Cond.before_iff.mp (own_w hsets 1 rfl))
  have Scs := Sta.start ecs (Or.inl (own_w hsets 0 rfl))
  have hcs : ¬ cs = (0 : Int32) := fun q => by
    subst q
    have u := not_v (Cond.before_iff.mp (own_w hsets 2 rfl))
    rw [eq_i ecs (Term.int_eval 0) rfl] at u
    simp at u
  obtain ⟨n, o, h1, h2, h3, _, L, rfl, ⟨rfl, N⟩, hq⟩ := rm0 l s _ hw i0 i1 i2 i3 cs s.heap.size s.heap (Nat.le_refl _) (Old.start s) hcs (hcalls.1 _ (List.mem_of_getElem? (i := 0) rfl)) (own_w hsets 2 rfl) Scs p e ha hc hk s m _ below hf ((Spec.applies_iff_loose hf).mp happ).1 ⟨rfl, State.Warmed39.refl s, rfl, IB.start⟩ trivial
  refine ⟨n, _, h1, h2, h3, hpost _ _ _ _ _ _ ⟨Cond.after_iff.mpr rfl, Cond.after_iff.mpr (eq_i res_at (Term.int_eval (1)) rfl), trivial⟩ ⟨hq.1, hq.2.1, hq.2.2.1, (hq.2.2.2.sift fun y hy => Or.inr (N y hy)).mono (by decide) (by decide)⟩⟩
theorem main_1_1 : Claimed_1_1 := comes_1 fun _ _ _ _ _ _ h hF => ⟨h.1, hF⟩
theorem main_1_2 : Claimed_1_2 := comes_1 fun _ _ _ _ _ _ h hF => ⟨h.2.1, hF⟩
end Jvm.Pilot.@@N@@
namespace Jvm.Pilot.@@N@@
open Jvm Jvm.ClassFile Sem Op Lib Jvm.Free Jvm.Stand Jvm.Pilot.@@N@@.Jvm.D
/-! MADE BY PROGRAM (witnessworld.py) out of the Statement's table words and the real class files: 21 classes; the members and pool entries that the words name. The judged class is class 1, her method 1. -/
namespace start1
open Jvm.ClassFile
def u (s : String) : CpInfo := .utf8 (stringToUtf16 s)
/-- a pool by its gaps: so many unusable entries, then the entry; so many at the end -/
def gap : Nat → List CpInfo → List CpInfo
  | 0, r => r
  | n + 1, r => .unusable :: gap n r
def poolList (es : List (Nat × CpInfo)) (last : Nat) : List CpInfo := es.foldr (fun e r => gap e.1 (e.2 :: r)) (gap last [])
def pool (es : List (Nat × CpInfo)) (last : Nat) : Array CpInfo := ⟨poolList es last⟩
def fileOf (pool : Array CpInfo) (this : Nat) (attrs : Array Attribute := #[]) (ms : Array MethodInfo := #[]) (fl : Nat := 33) (sup : Nat := 0) (ifs : Array Nat := #[]) (fds : Array FieldInfo := #[]) : ClassFile where
  minorVersion := 0
  majorVersion := 65
  constantPool := pool
  accessFlags := fl
  thisClass := this
  superClass := sup
  interfaces := ifs
  fields := fds
  methods := ms
  attributes := attrs
def plain (name : String) (sup : Option ClassId) : Class where
  name := name
  kind := .ordinary
  loader := none
  accessFlags := 33
  super := sup
  interfaces := #[]
  cf := none
  fields := #[]
  methods := #[]
  instanceTypes := #[]
  staticTypes := #[]
  resolved := #[]
  callSites := []
  init := .initialized
  statics := none
  mirror := none

def pool0 : Array CpInfo := pool [(5, u "<init>"), (0, u "()V"), (1, .class_ 10), (1, u "java/lang/Object")] 113

def k0c0 : Code := { maxStack := 0, maxLocals := 1, code := object_method_1_code, exceptionTable := #[], attributes := #[] }
def k0m0 : Method := { name := "<init>", desc := "()V", sig := { parameters := [], returnType := none }, accessFlags := 1, code := some k0c0 }
/-- java/lang/Object -/
def k0 : Class := { plain "java/lang/Object" none with
  accessFlags := 33
  interfaces := #[]
  cf := some (fileOf pool0 8 #[] #[{ accessFlags := 1, nameIndex := 5, descriptorIndex := 6, attributes := #[] }] 33 0 #[] #[])
  fields := #[]
  methods := #[k0m0]
  instanceTypes := #[]
  staticTypes := #[]
  resolved := Array.replicate 124 none
  statics := none }

def pool1 : Array CpInfo := pool [(2, .class_ 4), (1, u "java/lang/Object"), (0, u "<init>"), (0, u "()V"), (0, .class_ 8), (0, u "java/lang/String"), (0, .methodref 7 10), (0, .nameAndType 5 11), (0, u "([C)V"), (0, .methodref 7 13), (0, .nameAndType 14 15), (0, u "valueOf"), (0, u "(C)Ljava/lang/String;"), (0, .class_ 17), (0, u "com/example/tracemass/tracemass/nets/PetriNet$TransitionNode"), (0, .methodref 16 19), (0, .nameAndType 5 20), (0, u "(Ljava/lang/String;Ljava/lang/String;Z)V"), (0, .methodref 16 22), (0, .nameAndType 23 24), (0, u "label"), (0, u "()Ljava/lang/String;"), (0, .methodref 7 26), (0, .nameAndType 27 28), (0, u "length"), (0, u "()I"), (0, .methodref 7 30), (0, .nameAndType 31 32), (0, u "equals"), (0, u "(Ljava/lang/Object;)Z"), (0, .class_ 34), (0, u "com/example/tracemass/tracemass/nets/TransitionNodeLabelPinLaw"), (2, u "law"), (0, u "(IIII)Z")] 9

def k1m0 : Method := { name := "<init>", desc := "()V", sig := { parameters := [], returnType := none }, accessFlags := 1, code := none }
def k1c1 : Code := { maxStack := 5, maxLocals := 13, code := code, exceptionTable := #[], attributes := #[] }
def k1m1 : Method := { name := "law", desc := "(IIII)Z", sig := { parameters := [.int, .int, .int, .int], returnType := some .boolean }, accessFlags := 9, code := some k1c1 }
/-- com/example/tracemass/tracemass/nets/TransitionNodeLabelPinLaw -/
def k1 : Class := { plain "com/example/tracemass/tracemass/nets/TransitionNodeLabelPinLaw" (some 0) with
  accessFlags := 49
  interfaces := #[]
  cf := some (fileOf pool1 33 #[] #[{ accessFlags := 1, nameIndex := 5, descriptorIndex := 6, attributes := #[] }, { accessFlags := 9, nameIndex := 37, descriptorIndex := 38, attributes := #[] }] 49 2 #[] #[])
  fields := #[]
  methods := #[k1m0, k1m1]
  instanceTypes := #[]
  staticTypes := #[]
  resolved := Array.replicate 48 none
  statics := none }

def pool2 : Array CpInfo := pool [(1, .class_ 2), (0, u "java/io/Serializable"), (0, .class_ 4), (0, u "java/lang/Object")] 2

/-- java/io/Serializable -/
def k2 : Class := { plain "java/io/Serializable" (some 0) with
  accessFlags := 1537
  interfaces := #[]
  cf := some (fileOf pool2 1 #[] #[] 1537 3 #[] #[])
  fields := #[]
  methods := #[]
  instanceTypes := #[]
  staticTypes := #[]
  resolved := Array.replicate 7 none
  statics := none }

def pool3 : Array CpInfo := pool [(1, .class_ 2), (0, u "java/lang/Comparable"), (0, .class_ 4), (0, u "java/lang/Object")] 7

/-- java/lang/Comparable -/
def k3 : Class := { plain "java/lang/Comparable" (some 0) with
  accessFlags := 1537
  interfaces := #[]
  cf := some (fileOf pool3 1 #[] #[] 1537 3 #[] #[])
  fields := #[]
  methods := #[]
  instanceTypes := #[]
  staticTypes := #[]
  resolved := Array.replicate 12 none
  statics := none }

def pool4 : Array CpInfo := pool [(2, .class_ 4), (1, u "java/lang/CharSequence"), (42, .class_ 48), (0, u "java/lang/CharSequence$1CodePointIterator"), (10, .class_ 60), (0, u "java/lang/CharSequence$1CharIterator"), (5, .class_ 67), (0, u "java/lang/Object")] 63

/-- java/lang/CharSequence -/
def k4 : Class := { plain "java/lang/CharSequence" (some 0) with
  accessFlags := 1537
  interfaces := #[]
  cf := some (fileOf pool4 2 #[.nestMembers #[47, 59]] #[] 1537 66 #[] #[])
  fields := #[]
  methods := #[]
  instanceTypes := #[]
  staticTypes := #[]
  resolved := Array.replicate 131 none
  statics := none }

def pool5 : Array CpInfo := pool [(1, .class_ 2), (0, u "java/lang/constant/Constable"), (0, .class_ 4), (0, u "java/lang/Object")] 6

/-- java/lang/constant/Constable -/
def k5 : Class := { plain "java/lang/constant/Constable" (some 0) with
  accessFlags := 1537
  interfaces := #[]
  cf := some (fileOf pool5 1 #[] #[] 1537 3 #[] #[])
  fields := #[]
  methods := #[]
  instanceTypes := #[]
  staticTypes := #[]
  resolved := Array.replicate 11 none
  statics := none }

def pool6 : Array CpInfo := pool [(1, .class_ 2), (0, u "java/lang/constant/ConstantDesc"), (0, .class_ 4), (0, u "java/lang/Object")] 32

/-- java/lang/constant/ConstantDesc -/
def k6 : Class := { plain "java/lang/constant/ConstantDesc" (some 0) with
  accessFlags := 1537
  interfaces := #[]
  cf := some (fileOf pool6 1 #[] #[] 1537 3 #[] #[])
  fields := #[]
  methods := #[]
  instanceTypes := #[]
  staticTypes := #[]
  resolved := Array.replicate 37 none
  statics := none }

def pool7 : Array CpInfo := pool [(1, .methodref 2 3), (0, .class_ 4), (0, .nameAndType 5 6), (0, u "java/lang/Object"), (0, u "<init>"), (0, u "()V"), (0, .string 8), (0, u ""), (0, .fieldref 10 11), (0, .class_ 12), (0, .nameAndType 13 14), (0, u "java/lang/String"), (0, u "value"), (0, u "[B"), (0, .fieldref 10 16), (0, .nameAndType 17 18), (0, u "coder"), (0, u "B"), (2, u "hash"), (0, u "I"), (2, u "hashIsZero"), (0, u "Z"), (0, .methodref 10 28), (0, .nameAndType 5 29), (0, u "([CIILjava/lang/Void;)V"), (8, .fieldref 10 39), (0, .nameAndType 40 26), (0, u "COMPACT_STRINGS"), (1, .class_ 44), (1, u "java/lang/StringUTF16"), (0, u "compress"), (1, .methodref 42 48), (0, .nameAndType 49 50), (0, u "coderFromArrayLen"), (0, u "([BI)B"), (2, u "toBytes"), (53, .class_ 109), (1, u "java/lang/StringLatin1"), (67, .methodref 42 178), (0, .nameAndType 45 179), (0, u "([CII)[B"), (29, .methodref 10 210), (0, .nameAndType 5 211), (0, u "([BB)V"), (122, u "()I"), (0, .methodref 10 336), (0, .nameAndType 17 337), (0, u "()B"), (31, u "(C)Z"), (137, u "length"), (33, .methodref 107 542), (0, .nameAndType 543 544), (0, u "equals"), (0, u "([B[B)Z"), (28, u "(Ljava/lang/Object;)Z"), (1, .class_ 576), (0, u "java/lang/CharSequence"), (22, u "CASE_INSENSITIVE_ORDER"), (0, u "Ljava/util/Comparator;"), (181, u "valueOf"), (0, u "(C)Ljava/lang/String;"), (226, u "([C)V"), (4, .methodref 107 1016), (0, .nameAndType 1017 369), (0, u "canEncode"), (0, .methodref 107 1019), (0, .nameAndType 53 1020), (0, u "(C)[B"), (80, u "serialPersistentFields"), (0, u "[Ljava/io/ObjectStreamField;"), (0, .class_ 1104), (0, u "java/lang/String$CaseInsensitiveComparator"), (1, .class_ 1107), (0, u "java/io/Serializable"), (0, .class_ 1109), (0, u "java/lang/Comparable"), (0, .class_ 1111), (0, u "java/lang/constant/Constable"), (0, .class_ 1113), (0, u "java/lang/constant/ConstantDesc"), (2, u "serialVersionUID"), (0, u "J"), (3, u "REPL"), (0, u "C"), (2, u "LATIN1"), (1, u "UTF16")] 323

def k7m0 : Method := { name := "<init>", desc := "()V", sig := { parameters := [], returnType := none }, accessFlags := 1, code := none }
def k7c1 : Code := { maxStack := 5, maxLocals := 2, code := jdk_42_method_3_code, exceptionTable := #[], attributes := #[] }
def k7m1 : Method := { name := "<init>", desc := "([C)V", sig := { parameters := [(.array .char)], returnType := none }, accessFlags := 1, code := some k7c1 }
def k7c2 : Code := { maxStack := 2, maxLocals := 1, code := jdk_42_method_54_code, exceptionTable := #[], attributes := #[] }
def k7m2 : Method := { name := "length", desc := "()I", sig := { parameters := [], returnType := some .int }, accessFlags := 1, code := some k7c2 }
def k7c3 : Code := { maxStack := 2, maxLocals := 3, code := jdk_42_method_66_code, exceptionTable := #[], attributes := #[] }
def k7m3 : Method := { name := "equals", desc := "(Ljava/lang/Object;)Z", sig := { parameters := [(.object "java/lang/Object")], returnType := some .boolean }, accessFlags := 1, code := some k7c3 }
def k7c4 : Code := { maxStack := 4, maxLocals := 1, code := jdk_42_method_139_code, exceptionTable := #[], attributes := #[] }
def k7m4 : Method := { name := "valueOf", desc := "(C)Ljava/lang/String;", sig := { parameters := [.char], returnType := some (.object "java/lang/String") }, accessFlags := 9, code := some k7c4 }
def k7c5 : Code := { maxStack := 4, maxLocals := 6, code := jdk_42_method_149_code, exceptionTable := #[], attributes := #[] }
def k7m5 : Method := { name := "<init>", desc := "([CIILjava/lang/Void;)V", sig := { parameters := [(.array .char), .int, .int, (.object "java/lang/Void")], returnType := none }, accessFlags := 2, code := some k7c5 }
def k7c6 : Code := { maxStack := 2, maxLocals := 3, code := jdk_42_method_151_code, exceptionTable := #[], attributes := #[] }
def k7m6 : Method := { name := "<init>", desc := "([BB)V", sig := { parameters := [(.array .byte), .byte], returnType := none }, accessFlags := 0, code := some k7c6 }
def k7c7 : Code := { maxStack := 1, maxLocals := 1, code := jdk_42_method_152_code, exceptionTable := #[], attributes := #[] }
def k7m7 : Method := { name := "coder", desc := "()B", sig := { parameters := [], returnType := some .byte }, accessFlags := 0, code := some k7c7 }
/-- java/lang/String -/
def k7 : Class := { plain "java/lang/String" (some 0) with
  accessFlags := 49
  interfaces := #[2, 3, 4, 5, 6]
  cf := some (fileOf pool7 10 #[.nestMembers #[1103]] #[{ accessFlags := 1, nameIndex := 5, descriptorIndex := 6, attributes := #[] }, { accessFlags := 1, nameIndex := 5, descriptorIndex := 1010, attributes := #[] }, { accessFlags := 1, nameIndex := 507, descriptorIndex := 334, attributes := #[] }, { accessFlags := 1, nameIndex := 543, descriptorIndex := 573, attributes := #[] }, { accessFlags := 9, nameIndex := 782, descriptorIndex := 783, attributes := #[] }, { accessFlags := 2, nameIndex := 5, descriptorIndex := 29, attributes := #[] }, { accessFlags := 0, nameIndex := 5, descriptorIndex := 211, attributes := #[] }, { accessFlags := 0, nameIndex := 17, descriptorIndex := 337, attributes := #[] }] 49 2 #[1106, 1108, 575, 1110, 1112] #[{ accessFlags := 18, nameIndex := 13, descriptorIndex := 14, attributes := #[] }, { accessFlags := 18, nameIndex := 17, descriptorIndex := 18, attributes := #[] }, { accessFlags := 2, nameIndex := 21, descriptorIndex := 22, attributes := #[] }, { accessFlags := 2, nameIndex := 25, descriptorIndex := 26, attributes := #[] }, { accessFlags := 26, nameIndex := 1116, descriptorIndex := 1117, attributes := #[] }, { accessFlags := 24, nameIndex := 40, descriptorIndex := 26, attributes := #[] }, { accessFlags := 26, nameIndex := 1101, descriptorIndex := 1102, attributes := #[] }, { accessFlags := 26, nameIndex := 1121, descriptorIndex := 1122, attributes := #[] }, { accessFlags := 25, nameIndex := 599, descriptorIndex := 600, attributes := #[] }, { accessFlags := 24, nameIndex := 1125, descriptorIndex := 18, attributes := #[] }, { accessFlags := 24, nameIndex := 1127, descriptorIndex := 18, attributes := #[] }])
  fields := #[{ name := "value", type := (.array .byte), accessFlags := 18, slot := 0, constantValue := 0 }, { name := "coder", type := .byte, accessFlags := 18, slot := 1, constantValue := 0 }, { name := "hash", type := .int, accessFlags := 2, slot := 2, constantValue := 0 }, { name := "hashIsZero", type := .boolean, accessFlags := 2, slot := 3, constantValue := 0 }, { name := "serialVersionUID", type := .long, accessFlags := 26, slot := 0, constantValue := 0 }, { name := "COMPACT_STRINGS", type := .boolean, accessFlags := 24, slot := 1, constantValue := 0 }, { name := "serialPersistentFields", type := (.array (.object "java/io/ObjectStreamField")), accessFlags := 26, slot := 2, constantValue := 0 }, { name := "REPL", type := .char, accessFlags := 26, slot := 3, constantValue := 0 }, { name := "CASE_INSENSITIVE_ORDER", type := (.object "java/util/Comparator"), accessFlags := 25, slot := 4, constantValue := 0 }, { name := "LATIN1", type := .byte, accessFlags := 24, slot := 5, constantValue := 0 }, { name := "UTF16", type := .byte, accessFlags := 24, slot := 6, constantValue := 0 }]
  methods := #[k7m0, k7m1, k7m2, k7m3, k7m4, k7m5, k7m6, k7m7]
  instanceTypes := #[(.array .byte), .byte, .int, .boolean]
  staticTypes := #[.long, .boolean, (.array (.object "java/io/ObjectStreamField")), .char, (.object "java/util/Comparator"), .byte, .byte]
  resolved := Array.replicate 1451 none
  statics := some 0 }

def pool8 : Array CpInfo := pool [(4, .class_ 6), (1, u "java/lang/Object"), (0, u "<init>"), (0, u "()V"), (5, .class_ 16), (1, u "java/lang/StringLatin1"), (73, u "canEncode"), (14, u "(C)Z"), (15, u "$assertionsDisabled"), (0, u "Z"), (98, .class_ 223), (1, u "java/lang/StringLatin1$LinesSpliterator"), (57, u "equals"), (0, u "([B[B)Z"), (97, u "toBytes"), (1, u "(C)[B"), (7, .class_ 391), (0, u "java/lang/StringLatin1$CharsSpliterator")] 3

def k8m0 : Method := { name := "<init>", desc := "()V", sig := { parameters := [], returnType := none }, accessFlags := 0, code := none }
def k8c1 : Code := { maxStack := 2, maxLocals := 1, code := jdk_43_method_3_code, exceptionTable := #[], attributes := #[] }
def k8m1 : Method := { name := "canEncode", desc := "(C)Z", sig := { parameters := [.char], returnType := some .boolean }, accessFlags := 9, code := some k8c1 }
def k8c2 : Code := { maxStack := 3, maxLocals := 3, code := jdk_43_method_13_code, exceptionTable := #[], attributes := #[] }
def k8m2 : Method := { name := "equals", desc := "([B[B)Z", sig := { parameters := [(.array .byte), (.array .byte)], returnType := some .boolean }, accessFlags := 9, code := some k8c2 }
def k8c3 : Code := { maxStack := 4, maxLocals := 1, code := jdk_43_method_46_code, exceptionTable := #[], attributes := #[] }
def k8m3 : Method := { name := "toBytes", desc := "(C)[B", sig := { parameters := [.char], returnType := some (.array .byte) }, accessFlags := 9, code := some k8c3 }
/-- java/lang/StringLatin1 -/
def k8 : Class := { plain "java/lang/StringLatin1" (some 0) with
  accessFlags := 48
  interfaces := #[]
  cf := some (fileOf pool8 14 #[.nestMembers #[390, 221]] #[{ accessFlags := 0, nameIndex := 7, descriptorIndex := 8, attributes := #[] }, { accessFlags := 9, nameIndex := 90, descriptorIndex := 105, attributes := #[] }, { accessFlags := 9, nameIndex := 281, descriptorIndex := 282, attributes := #[] }, { accessFlags := 9, nameIndex := 380, descriptorIndex := 382, attributes := #[] }] 48 4 #[] #[{ accessFlags := 4120, nameIndex := 121, descriptorIndex := 122, attributes := #[] }])
  fields := #[{ name := "$assertionsDisabled", type := .boolean, accessFlags := 4120, slot := 0, constantValue := 0 }]
  methods := #[k8m0, k8m1, k8m2, k8m3]
  instanceTypes := #[]
  staticTypes := #[.boolean]
  resolved := Array.replicate 395 none
  statics := none }

def pool9 : Array CpInfo := pool [(1, .methodref 2 3), (0, .class_ 4), (0, .nameAndType 5 6), (0, u "java/lang/Object"), (0, u "<init>"), (0, u "()V"), (0, .class_ 8), (0, u "java/lang/Record")] 13

def k9c0 : Code := { maxStack := 1, maxLocals := 1, code := jdk_30_method_1_code, exceptionTable := #[], attributes := #[] }
def k9m0 : Method := { name := "<init>", desc := "()V", sig := { parameters := [], returnType := none }, accessFlags := 4, code := some k9c0 }
/-- java/lang/Record -/
def k9 : Class := { plain "java/lang/Record" (some 0) with
  accessFlags := 1057
  interfaces := #[]
  cf := some (fileOf pool9 7 #[] #[{ accessFlags := 4, nameIndex := 5, descriptorIndex := 6, attributes := #[] }] 1057 2 #[] #[])
  fields := #[]
  methods := #[k9m0]
  instanceTypes := #[]
  staticTypes := #[]
  resolved := Array.replicate 22 none
  statics := none }

def pool10 : Array CpInfo := pool [(1, .methodref 2 3), (0, .class_ 4), (0, .nameAndType 5 6), (0, u "java/lang/Record"), (0, u "<init>"), (0, u "()V"), (9, .fieldref 17 18), (0, .class_ 19), (0, .nameAndType 20 21), (0, u "com/example/tracemass/tracemass/nets/PetriNet$TransitionNode"), (0, u "id"), (0, u "Ljava/lang/String;"), (0, .fieldref 17 23), (0, .nameAndType 24 21), (0, u "name"), (0, .fieldref 17 26), (0, .nameAndType 27 28), (0, u "silent"), (0, u "Z"), (12, u "(Ljava/lang/String;Ljava/lang/String;Z)V"), (6, u "label"), (0, u "()Ljava/lang/String;"), (6, .class_ 57), (0, u "com/example/tracemass/tracemass/nets/PetriNet")] 29

def k10c0 : Code := { maxStack := 3, maxLocals := 4, code := prog_42_method_1_code, exceptionTable := #[], attributes := #[] }
def k10m0 : Method := { name := "<init>", desc := "(Ljava/lang/String;Ljava/lang/String;Z)V", sig := { parameters := [(.object "java/lang/String"), (.object "java/lang/String"), .boolean], returnType := none }, accessFlags := 1, code := some k10c0 }
def k10c1 : Code := { maxStack := 1, maxLocals := 1, code := prog_42_method_2_code, exceptionTable := #[], attributes := #[] }
def k10m1 : Method := { name := "label", desc := "()Ljava/lang/String;", sig := { parameters := [], returnType := some (.object "java/lang/String") }, accessFlags := 1, code := some k10c1 }
/-- com/example/tracemass/tracemass/nets/PetriNet$TransitionNode -/
def k10 : Class := { plain "com/example/tracemass/tracemass/nets/PetriNet$TransitionNode" (some 9) with
  accessFlags := 49
  interfaces := #[]
  cf := some (fileOf pool10 17 #[.nestHost 56] #[{ accessFlags := 1, nameIndex := 5, descriptorIndex := 41, attributes := #[] }, { accessFlags := 1, nameIndex := 48, descriptorIndex := 49, attributes := #[] }] 49 2 #[] #[{ accessFlags := 18, nameIndex := 20, descriptorIndex := 21, attributes := #[] }, { accessFlags := 18, nameIndex := 24, descriptorIndex := 21, attributes := #[] }, { accessFlags := 18, nameIndex := 27, descriptorIndex := 28, attributes := #[] }])
  fields := #[{ name := "id", type := (.object "java/lang/String"), accessFlags := 18, slot := 0, constantValue := 0 }, { name := "name", type := (.object "java/lang/String"), accessFlags := 18, slot := 1, constantValue := 0 }, { name := "silent", type := .boolean, accessFlags := 18, slot := 2, constantValue := 0 }]
  methods := #[k10m0, k10m1]
  instanceTypes := #[(.object "java/lang/String"), (.object "java/lang/String"), .boolean]
  staticTypes := #[]
  resolved := Array.replicate 87 none
  statics := none }

def pool11 : Array CpInfo := pool [(6, .class_ 8), (1, u "java/lang/Object"), (0, u "<init>"), (0, u "()V"), (1, .class_ 14), (1, u "java/lang/StringUTF16"), (31, u "$assertionsDisabled"), (0, u "Z"), (13, u "HI_BYTE_SHIFT"), (0, u "I"), (2, u "LO_BYTE_SHIFT"), (49, .methodref 12 116), (0, .nameAndType 117 118), (0, u "compress"), (0, u "([CI[BII)I"), (3, u "([CII)[B"), (138, u "coderFromArrayLen"), (0, u "([BI)B"), (106, .class_ 371), (1, u "java/lang/StringUTF16$LinesSpliterator"), (58, u "MAX_LENGTH"), (196, .class_ 628), (0, u "java/lang/StringUTF16$CodePointsSpliterator"), (0, .class_ 630), (0, u "java/lang/StringUTF16$CharsSpliterator")] 4

def k11m0 : Method := { name := "<init>", desc := "()V", sig := { parameters := [], returnType := none }, accessFlags := 0, code := none }
def k11c1 : Code := { maxStack := 2, maxLocals := 2, code := jdk_52_method_15_code, exceptionTable := #[], attributes := #[] }
def k11m1 : Method := { name := "coderFromArrayLen", desc := "([BI)B", sig := { parameters := [(.array .byte), .int], returnType := some .byte }, accessFlags := 8, code := some k11c1 }
def k11c2 : Code := { maxStack := 5, maxLocals := 6, code := jdk_52_method_16_code, exceptionTable := #[], attributes := #[] }
def k11m2 : Method := { name := "compress", desc := "([CII)[B", sig := { parameters := [(.array .char), .int, .int], returnType := some (.array .byte) }, accessFlags := 9, code := some k11c2 }
def k11c3 : Code := { maxStack := 3, maxLocals := 7, code := jdk_52_method_21_code, exceptionTable := #[], attributes := #[] }
def k11m3 : Method := { name := "compress", desc := "([CI[BII)I", sig := { parameters := [(.array .char), .int, (.array .byte), .int, .int], returnType := some .int }, accessFlags := 9, code := some k11c3 }
/-- java/lang/StringUTF16 -/
def k11 : Class := { plain "java/lang/StringUTF16" (some 0) with
  accessFlags := 48
  interfaces := #[]
  cf := some (fileOf pool11 12 #[.nestMembers #[627, 629, 369]] #[{ accessFlags := 0, nameIndex := 9, descriptorIndex := 10, attributes := #[] }, { accessFlags := 8, nameIndex := 261, descriptorIndex := 262, attributes := #[] }, { accessFlags := 9, nameIndex := 117, descriptorIndex := 122, attributes := #[] }, { accessFlags := 9, nameIndex := 117, descriptorIndex := 118, attributes := #[] }] 48 6 #[] #[{ accessFlags := 26, nameIndex := 61, descriptorIndex := 62, attributes := #[] }, { accessFlags := 26, nameIndex := 65, descriptorIndex := 62, attributes := #[] }, { accessFlags := 24, nameIndex := 430, descriptorIndex := 62, attributes := #[] }, { accessFlags := 4120, nameIndex := 46, descriptorIndex := 47, attributes := #[] }])
  fields := #[{ name := "HI_BYTE_SHIFT", type := .int, accessFlags := 26, slot := 0, constantValue := 0 }, { name := "LO_BYTE_SHIFT", type := .int, accessFlags := 26, slot := 1, constantValue := 0 }, { name := "MAX_LENGTH", type := .int, accessFlags := 24, slot := 2, constantValue := 0 }, { name := "$assertionsDisabled", type := .boolean, accessFlags := 4120, slot := 3, constantValue := 0 }]
  methods := #[k11m0, k11m1, k11m2, k11m3]
  instanceTypes := #[]
  staticTypes := #[.int, .int, .int, .boolean]
  resolved := Array.replicate 635 none
  statics := none }

def pool12 : Array CpInfo := pool [(2, .class_ 4), (1, u "java/lang/Object"), (0, u "<init>"), (0, u "()V"), (17, .class_ 26), (1, u "jdk/internal/util/Preconditions"), (28, .class_ 56), (0, u "jdk/internal/util/Preconditions$4"), (57, .class_ 115), (0, u "jdk/internal/util/Preconditions$1"), (7, u "SIOOBE_FORMATTER"), (0, u "Ljava/util/function/BiFunction;"), (0, .class_ 126), (0, u "jdk/internal/util/Preconditions$2"), (3, u "AIOOBE_FORMATTER"), (0, .class_ 132), (0, u "jdk/internal/util/Preconditions$3"), (3, u "IOOBE_FORMATTER")] 57

def k12m0 : Method := { name := "<init>", desc := "()V", sig := { parameters := [], returnType := none }, accessFlags := 1, code := none }
/-- jdk/internal/util/Preconditions -/
def k12 : Class := { plain "jdk/internal/util/Preconditions" (some 0) with
  accessFlags := 33
  interfaces := #[]
  cf := some (fileOf pool12 24 #[.nestMembers #[55, 131, 125, 114]] #[{ accessFlags := 1, nameIndex := 5, descriptorIndex := 6, attributes := #[] }] 33 2 #[] #[{ accessFlags := 25, nameIndex := 123, descriptorIndex := 124, attributes := #[] }, { accessFlags := 25, nameIndex := 130, descriptorIndex := 124, attributes := #[] }, { accessFlags := 25, nameIndex := 136, descriptorIndex := 124, attributes := #[] }])
  fields := #[{ name := "SIOOBE_FORMATTER", type := (.object "java/util/function/BiFunction"), accessFlags := 25, slot := 0, constantValue := 0 }, { name := "AIOOBE_FORMATTER", type := (.object "java/util/function/BiFunction"), accessFlags := 25, slot := 1, constantValue := 0 }, { name := "IOOBE_FORMATTER", type := (.object "java/util/function/BiFunction"), accessFlags := 25, slot := 2, constantValue := 0 }]
  methods := #[k12m0]
  instanceTypes := #[]
  staticTypes := #[(.object "java/util/function/BiFunction"), (.object "java/util/function/BiFunction"), (.object "java/util/function/BiFunction")]
  resolved := Array.replicate 194 none
  statics := some 1 }

def pool13 : Array CpInfo := pool [(9, u "<init>"), (6, .class_ 18), (1, u "java/lang/Object"), (0, u "()V"), (1, .class_ 23), (1, u "jdk/internal/util/ArraysSupport"), (0, u "LOG2_ARRAY_LONG_INDEX_SCALE"), (0, u "I"), (2, u "U"), (0, u "Ljdk/internal/misc/Unsafe;"), (8, u "BIG_ENDIAN"), (0, u "Z"), (8, u "LOG2_BYTE_BIT_SIZE"), (4, u "LOG2_ARRAY_INT_INDEX_SCALE"), (54, u "JLA"), (0, u "Ljdk/internal/access/JavaLangAccess;"), (11, u "LOG2_ARRAY_BOOLEAN_INDEX_SCALE"), (9, u "LOG2_ARRAY_BYTE_INDEX_SCALE"), (5, u "LOG2_ARRAY_CHAR_INDEX_SCALE"), (5, u "LOG2_ARRAY_SHORT_INDEX_SCALE"), (18, u "LOG2_ARRAY_FLOAT_INDEX_SCALE"), (24, u "LOG2_ARRAY_DOUBLE_INDEX_SCALE"), (89, u "T_BOOLEAN"), (2, u "T_CHAR"), (1, u "T_FLOAT"), (1, u "T_DOUBLE"), (1, u "T_BYTE"), (1, u "T_SHORT"), (1, u "T_INT"), (1, u "T_LONG"), (1, u "SOFT_MAX_ARRAY_LENGTH")] 83

def k13m0 : Method := { name := "<init>", desc := "()V", sig := { parameters := [], returnType := none }, accessFlags := 2, code := none }
/-- jdk/internal/util/ArraysSupport -/
def k13 : Class := { plain "jdk/internal/util/ArraysSupport" (some 0) with
  accessFlags := 33
  interfaces := #[]
  cf := some (fileOf pool13 21 #[] #[{ accessFlags := 2, nameIndex := 9, descriptorIndex := 19, attributes := #[] }] 33 16 #[] #[{ accessFlags := 24, nameIndex := 28, descriptorIndex := 29, attributes := #[] }, { accessFlags := 26, nameIndex := 38, descriptorIndex := 39, attributes := #[] }, { accessFlags := 25, nameIndex := 121, descriptorIndex := 25, attributes := #[] }, { accessFlags := 25, nameIndex := 131, descriptorIndex := 25, attributes := #[] }, { accessFlags := 25, nameIndex := 137, descriptorIndex := 25, attributes := #[] }, { accessFlags := 25, nameIndex := 143, descriptorIndex := 25, attributes := #[] }, { accessFlags := 25, nameIndex := 53, descriptorIndex := 25, attributes := #[] }, { accessFlags := 25, nameIndex := 24, descriptorIndex := 25, attributes := #[] }, { accessFlags := 25, nameIndex := 162, descriptorIndex := 25, attributes := #[] }, { accessFlags := 25, nameIndex := 187, descriptorIndex := 25, attributes := #[] }, { accessFlags := 26, nameIndex := 48, descriptorIndex := 25, attributes := #[] }, { accessFlags := 25, nameIndex := 277, descriptorIndex := 25, attributes := #[] }, { accessFlags := 25, nameIndex := 280, descriptorIndex := 25, attributes := #[] }, { accessFlags := 25, nameIndex := 282, descriptorIndex := 25, attributes := #[] }, { accessFlags := 25, nameIndex := 284, descriptorIndex := 25, attributes := #[] }, { accessFlags := 25, nameIndex := 286, descriptorIndex := 25, attributes := #[] }, { accessFlags := 25, nameIndex := 288, descriptorIndex := 25, attributes := #[] }, { accessFlags := 25, nameIndex := 290, descriptorIndex := 25, attributes := #[] }, { accessFlags := 25, nameIndex := 292, descriptorIndex := 25, attributes := #[] }, { accessFlags := 26, nameIndex := 108, descriptorIndex := 109, attributes := #[] }, { accessFlags := 25, nameIndex := 294, descriptorIndex := 25, attributes := #[] }])
  fields := #[{ name := "U", type := (.object "jdk/internal/misc/Unsafe"), accessFlags := 24, slot := 0, constantValue := 0 }, { name := "BIG_ENDIAN", type := .boolean, accessFlags := 26, slot := 1, constantValue := 0 }, { name := "LOG2_ARRAY_BOOLEAN_INDEX_SCALE", type := .int, accessFlags := 25, slot := 2, constantValue := 0 }, { name := "LOG2_ARRAY_BYTE_INDEX_SCALE", type := .int, accessFlags := 25, slot := 3, constantValue := 0 }, { name := "LOG2_ARRAY_CHAR_INDEX_SCALE", type := .int, accessFlags := 25, slot := 4, constantValue := 0 }, { name := "LOG2_ARRAY_SHORT_INDEX_SCALE", type := .int, accessFlags := 25, slot := 5, constantValue := 0 }, { name := "LOG2_ARRAY_INT_INDEX_SCALE", type := .int, accessFlags := 25, slot := 6, constantValue := 0 }, { name := "LOG2_ARRAY_LONG_INDEX_SCALE", type := .int, accessFlags := 25, slot := 7, constantValue := 0 }, { name := "LOG2_ARRAY_FLOAT_INDEX_SCALE", type := .int, accessFlags := 25, slot := 8, constantValue := 0 }, { name := "LOG2_ARRAY_DOUBLE_INDEX_SCALE", type := .int, accessFlags := 25, slot := 9, constantValue := 0 }, { name := "LOG2_BYTE_BIT_SIZE", type := .int, accessFlags := 26, slot := 10, constantValue := 0 }, { name := "T_BOOLEAN", type := .int, accessFlags := 25, slot := 11, constantValue := 0 }, { name := "T_CHAR", type := .int, accessFlags := 25, slot := 12, constantValue := 0 }, { name := "T_FLOAT", type := .int, accessFlags := 25, slot := 13, constantValue := 0 }, { name := "T_DOUBLE", type := .int, accessFlags := 25, slot := 14, constantValue := 0 }, { name := "T_BYTE", type := .int, accessFlags := 25, slot := 15, constantValue := 0 }, { name := "T_SHORT", type := .int, accessFlags := 25, slot := 16, constantValue := 0 }, { name := "T_INT", type := .int, accessFlags := 25, slot := 17, constantValue := 0 }, { name := "T_LONG", type := .int, accessFlags := 25, slot := 18, constantValue := 0 }, { name := "JLA", type := (.object "jdk/internal/access/JavaLangAccess"), accessFlags := 26, slot := 19, constantValue := 0 }, { name := "SOFT_MAX_ARRAY_LENGTH", type := .int, accessFlags := 25, slot := 20, constantValue := 0 }]
  methods := #[k13m0]
  instanceTypes := #[]
  staticTypes := #[(.object "jdk/internal/misc/Unsafe"), .boolean, .int, .int, .int, .int, .int, .int, .int, .int, .int, .int, .int, .int, .int, .int, .int, .int, .int, (.object "jdk/internal/access/JavaLangAccess"), .int]
  resolved := Array.replicate 378 none
  statics := none }

def pool14 : Array CpInfo := pool [(1, u "java/lang/Cloneable"), (0, .class_ 1), (0, u "java/lang/Object"), (0, .class_ 3)] 3

/-- java/lang/Cloneable -/
def k14 : Class := { plain "java/lang/Cloneable" (some 0) with
  accessFlags := 1537
  interfaces := #[]
  cf := some (fileOf pool14 2 #[] #[] 1537 4 #[] #[])
  fields := #[]
  methods := #[]
  instanceTypes := #[]
  staticTypes := #[]
  resolved := Array.replicate 8 none
  statics := none }

/-- the primitive byte -/
def k15 : Class := { plain "byte" none with kind := .primitive 'B', accessFlags := 0x411 }
/-- [B -/
def k16 : Class := { plain "[B" (some 0) with kind := .array 15 .byte, interfaces := #[14, 2], accessFlags := 1041 }

/-- the primitive char -/
def k17 : Class := { plain "char" none with kind := .primitive 'C', accessFlags := 0x411 }
/-- [C -/
def k18 : Class := { plain "[C" (some 0) with kind := .array 17 .char, interfaces := #[14, 2], accessFlags := 1041 }

/-- the primitive int -/
def k19 : Class := { plain "int" none with kind := .primitive 'I', accessFlags := 0x411 }
/-- [I -/
def k20 : Class := { plain "[I" (some 0) with kind := .array 19 .int, interfaces := #[14, 2], accessFlags := 1041 }

def heap : Heap := #[{ cls := 7, slots := #[.long 0, .int 1, .null, .int 0, .null, .int 0, .int 0], vm := .statics 7 },
  { cls := 12, slots := #[.null, .null, .null], vm := .statics 12 }]
def classes : Array Class := #[k0, k1, k2, k3, k4, k5, k6, k7, k8, k9, k10, k11, k12, k13, k14, k15, k16, k17, k18, k19, k20]
def interned : List (Array UInt16 × Addr) := []
def slotsUsed : Nat := 10
def theMethod : MethodId := ⟨1, 1⟩
def args0 : Array Value := #[.int 8, .int 65, .int 66, .int 67]
def aboutOver (below : List Frame) : State where
  vm := { classes := classes, interned := interned.toArray }
  heap := heap
  slotsUsed := slotsUsed
  threads := #[{ frames := .invoking theMethod args0 :: below }]
def below0 : List Frame := [.native { method := ⟨0, 0⟩, args := #[] }]
def about1 : State := aboutOver below0
def p0 : Program := .bare "" "" ""
def e0 : Env := launch0.env 0 0 0
theorem w_frames : about1.frames = Frame.invoking theMethod args0 :: below0 := rfl
set_option maxRecDepth 65536 in
theorem w_args : argsFit about1.vm theMethod args0 = true := by decide +kernel
set_option maxRecDepth 65536 in
theorem w_heap : heapFits about1 = true := by decide +kernel
set_option maxRecDepth 65536 in
theorem w_runnable : about1.curStatus? = some .runnable := by decide +kernel
set_option maxRecDepth 65536 in
theorem w_alone : about1.alone = true := by decide +kernel
set_option maxRecDepth 65536 in
theorem w_named : about1.methodNamed? x = some theMethod := by decide +kernel
set_option maxRecDepth 65536 in
theorem w_hears : about1.hears theMethod below0 = true := by decide +kernel
set_option maxRecDepth 65536 in
theorem w_ripe : about1.ripe theMethod args0 below0 = true := by decide +kernel
theorem w_running : about1.status = .running := rfl
set_option maxRecDepth 65536 in
theorem w_room : about1.hasRoom e0.platform room_1 = true :=
  launch0.hasRoom_least _ room_1 (by decide +kernel) (by decide +kernel) (by decide +kernel) (by decide +kernel) (by decide +kernel) (by decide +kernel)
theorem allAtoms_all (ts : List Jvm.Cond) (a : Array Jvm.Value) (st : Jvm.State) : (allAtoms ts).before a st = ts.all (fun c => c.before a st) := by
  induction ts with
  | nil => rfl
  | cons c t ih =>
    show (Jvm.Cond.and c (allAtoms t)).before a st = _
    rw [Jvm.Cond.before_and, ih, List.all_cons]
def words1 : List Jvm.Cond := Jvm.Cond.code x code maxLocals ret :: tables_1
/-- a 'code' word, met by the world's own term for the bytes: nothing is compared byte by byte -/
theorem code_word {y : MethodName} {bytes : ByteArray} {mx : Nat} {rt : Option FieldType} {a : Array Value} {s : State} {m : MethodId} {meth : Method} {c : Code} (h1 : s.methodNamed? y = some m) (h2 : s.vm.method? m = some meth) (h3 : meth.code = some c) (h4 : c.code = bytes)
    (h5 : (c.maxLocals == mx && c.exceptionTable.isEmpty && decide (c.maxStack ≤ mostOperands) && decide (meth.sig.returnType = rt) && !meth.locks && decide (parseMethodDescriptor y.desc = some meth.sig)) = true) : (Jvm.Cond.code y bytes mx rt).before a s = true := by
  simp only [Bool.and_eq_true, beq_iff_eq, Bool.not_eq_true', decide_eq_true_eq] at h5
  obtain ⟨⟨⟨⟨⟨g1, g2⟩, g3⟩, g4⟩, g5⟩, g6⟩ := h5
  simp [Cond.before, Cond.holds, Cond.value, h1, h2, h3, h4, g1, g2, g3, g4, g5, g6]
def isCode : Jvm.Cond → Bool
  | .code _ _ _ _ => true
  | _ => false
theorem all_split {L : List Jvm.Cond} {P : Jvm.Cond → Bool} (h1 : L.all (fun c => isCode c || P c) = true) (h2 : ∀ c ∈ L.filter isCode, P c = true) : L.all P = true := by
  refine List.all_eq_true.mpr fun c hc => ?_
  have h := List.all_eq_true.mp h1 c hc
  rcases Bool.eq_false_or_eq_true (isCode c) with hi | hi
  · exact h2 c (List.mem_filter.mpr ⟨hc, hi⟩)
  · simpa [hi] using h
set_option maxRecDepth 65536 in
theorem w_c0 : (Jvm.Cond.code x code maxLocals ret).before args0 about1 = true := code_word (m := ⟨1, 1⟩) (meth := k1m1) (c := k1c1) (by decide +kernel) rfl rfl rfl (by decide +kernel)
set_option maxRecDepth 65536 in
theorem w_c1 : (Jvm.Cond.code ({ cls := "java/lang/String", name := "<init>", desc := "([C)V" } : Jvm.MethodName) jdk_42_method_3_code (2 : Nat) (Option.none : Option Jvm.ClassFile.FieldType)).before args0 about1 = true := code_word (m := ⟨7, 1⟩) (meth := k7m1) (c := k7c1) (by decide +kernel) rfl rfl rfl (by decide +kernel)
set_option maxRecDepth 65536 in
theorem w_c2 : (Jvm.Cond.code ({ cls := "java/lang/String", name := "<init>", desc := "([CIILjava/lang/Void;)V" } : Jvm.MethodName) jdk_42_method_149_code (6 : Nat) (Option.none : Option Jvm.ClassFile.FieldType)).before args0 about1 = true := code_word (m := ⟨7, 5⟩) (meth := k7m5) (c := k7c5) (by decide +kernel) rfl rfl rfl (by decide +kernel)
set_option maxRecDepth 65536 in
theorem w_c3 : (Jvm.Cond.code ({ cls := "java/lang/Object", name := "<init>", desc := "()V" } : Jvm.MethodName) object_method_1_code (1 : Nat) (Option.none : Option Jvm.ClassFile.FieldType)).before args0 about1 = true := code_word (m := ⟨0, 0⟩) (meth := k0m0) (c := k0c0) (by decide +kernel) rfl rfl rfl (by decide +kernel)
set_option maxRecDepth 65536 in
theorem w_c4 : (Jvm.Cond.code ({ cls := "java/lang/String", name := "valueOf", desc := "(C)Ljava/lang/String;" } : Jvm.MethodName) jdk_42_method_139_code (1 : Nat) (Option.some (Jvm.ClassFile.FieldType.object "java/lang/String"))).before args0 about1 = true := code_word (m := ⟨7, 4⟩) (meth := k7m4) (c := k7c4) (by decide +kernel) rfl rfl rfl (by decide +kernel)
set_option maxRecDepth 65536 in
theorem w_c5 : (Jvm.Cond.code ({ cls := "java/lang/StringLatin1", name := "canEncode", desc := "(C)Z" } : Jvm.MethodName) jdk_43_method_3_code (1 : Nat) (Option.some Jvm.ClassFile.FieldType.boolean)).before args0 about1 = true := code_word (m := ⟨8, 1⟩) (meth := k8m1) (c := k8c1) (by decide +kernel) rfl rfl rfl (by decide +kernel)
set_option maxRecDepth 65536 in
theorem w_c6 : (Jvm.Cond.code ({ cls := "java/lang/StringLatin1", name := "toBytes", desc := "(C)[B" } : Jvm.MethodName) jdk_43_method_46_code (1 : Nat) (Option.some (Jvm.ClassFile.FieldType.array Jvm.ClassFile.FieldType.byte))).before args0 about1 = true := code_word (m := ⟨8, 3⟩) (meth := k8m3) (c := k8c3) (by decide +kernel) rfl rfl rfl (by decide +kernel)
set_option maxRecDepth 65536 in
theorem w_c7 : (Jvm.Cond.code ({ cls := "java/lang/String", name := "<init>", desc := "([BB)V" } : Jvm.MethodName) jdk_42_method_151_code (3 : Nat) (Option.none : Option Jvm.ClassFile.FieldType)).before args0 about1 = true := code_word (m := ⟨7, 6⟩) (meth := k7m6) (c := k7c6) (by decide +kernel) rfl rfl rfl (by decide +kernel)
set_option maxRecDepth 65536 in
theorem w_c8 : (Jvm.Cond.code ({ cls := "com/example/tracemass/tracemass/nets/PetriNet$TransitionNode", name := "<init>", desc := "(Ljava/lang/String;Ljava/lang/String;Z)V" } : Jvm.MethodName) prog_42_method_1_code (4 : Nat) (Option.none : Option Jvm.ClassFile.FieldType)).before args0 about1 = true := code_word (m := ⟨10, 0⟩) (meth := k10m0) (c := k10c0) (by decide +kernel) rfl rfl rfl (by decide +kernel)
set_option maxRecDepth 65536 in
theorem w_c9 : (Jvm.Cond.code ({ cls := "java/lang/Record", name := "<init>", desc := "()V" } : Jvm.MethodName) jdk_30_method_1_code (1 : Nat) (Option.none : Option Jvm.ClassFile.FieldType)).before args0 about1 = true := code_word (m := ⟨9, 0⟩) (meth := k9m0) (c := k9c0) (by decide +kernel) rfl rfl rfl (by decide +kernel)
set_option maxRecDepth 65536 in
theorem w_c10 : (Jvm.Cond.code ({ cls := "com/example/tracemass/tracemass/nets/PetriNet$TransitionNode", name := "label", desc := "()Ljava/lang/String;" } : Jvm.MethodName) prog_42_method_2_code (1 : Nat) (Option.some (Jvm.ClassFile.FieldType.object "java/lang/String"))).before args0 about1 = true := code_word (m := ⟨10, 1⟩) (meth := k10m1) (c := k10c1) (by decide +kernel) rfl rfl rfl (by decide +kernel)
set_option maxRecDepth 65536 in
theorem w_c11 : (Jvm.Cond.code ({ cls := "java/lang/String", name := "length", desc := "()I" } : Jvm.MethodName) jdk_42_method_54_code (1 : Nat) (Option.some Jvm.ClassFile.FieldType.int)).before args0 about1 = true := code_word (m := ⟨7, 2⟩) (meth := k7m2) (c := k7c2) (by decide +kernel) rfl rfl rfl (by decide +kernel)
set_option maxRecDepth 65536 in
theorem w_c12 : (Jvm.Cond.code ({ cls := "java/lang/String", name := "coder", desc := "()B" } : Jvm.MethodName) jdk_42_method_152_code (1 : Nat) (Option.some Jvm.ClassFile.FieldType.byte)).before args0 about1 = true := code_word (m := ⟨7, 7⟩) (meth := k7m7) (c := k7c7) (by decide +kernel) rfl rfl rfl (by decide +kernel)
set_option maxRecDepth 65536 in
theorem w_c13 : (Jvm.Cond.code ({ cls := "java/lang/String", name := "equals", desc := "(Ljava/lang/Object;)Z" } : Jvm.MethodName) jdk_42_method_66_code (3 : Nat) (Option.some Jvm.ClassFile.FieldType.boolean)).before args0 about1 = true := code_word (m := ⟨7, 3⟩) (meth := k7m3) (c := k7c3) (by decide +kernel) rfl rfl rfl (by decide +kernel)
set_option maxRecDepth 65536 in
theorem w_c14 : (Jvm.Cond.code ({ cls := "java/lang/StringLatin1", name := "equals", desc := "([B[B)Z" } : Jvm.MethodName) jdk_43_method_13_code (3 : Nat) (Option.some Jvm.ClassFile.FieldType.boolean)).before args0 about1 = true := code_word (m := ⟨8, 2⟩) (meth := k8m2) (c := k8c2) (by decide +kernel) rfl rfl rfl (by decide +kernel)
set_option maxRecDepth 65536 in
theorem w_c15 : (Jvm.Cond.code ({ cls := "java/lang/StringUTF16", name := "compress", desc := "([CII)[B" } : Jvm.MethodName) jdk_52_method_16_code (6 : Nat) (Option.some (Jvm.ClassFile.FieldType.array Jvm.ClassFile.FieldType.byte))).before args0 about1 = true := code_word (m := ⟨11, 2⟩) (meth := k11m2) (c := k11c2) (by decide +kernel) rfl rfl rfl (by decide +kernel)
set_option maxRecDepth 65536 in
theorem w_c16 : (Jvm.Cond.code ({ cls := "java/lang/StringUTF16", name := "compress", desc := "([CI[BII)I" } : Jvm.MethodName) jdk_52_method_21_code (7 : Nat) (Option.some Jvm.ClassFile.FieldType.int)).before args0 about1 = true := code_word (m := ⟨11, 3⟩) (meth := k11m3) (c := k11c3) (by decide +kernel) rfl rfl rfl (by decide +kernel)
set_option maxRecDepth 65536 in
theorem w_c17 : (Jvm.Cond.code ({ cls := "java/lang/StringUTF16", name := "coderFromArrayLen", desc := "([BI)B" } : Jvm.MethodName) jdk_52_method_15_code (2 : Nat) (Option.some Jvm.ClassFile.FieldType.byte)).before args0 about1 = true := code_word (m := ⟨11, 1⟩) (meth := k11m1) (c := k11c1) (by decide +kernel) rfl rfl rfl (by decide +kernel)
def codes1 : List Jvm.Cond := [Jvm.Cond.code x code maxLocals ret, Jvm.Cond.code ({ cls := "java/lang/String", name := "<init>", desc := "([C)V" } : Jvm.MethodName) jdk_42_method_3_code (2 : Nat) (Option.none : Option Jvm.ClassFile.FieldType), Jvm.Cond.code ({ cls := "java/lang/String", name := "<init>", desc := "([CIILjava/lang/Void;)V" } : Jvm.MethodName) jdk_42_method_149_code (6 : Nat) (Option.none : Option Jvm.ClassFile.FieldType), Jvm.Cond.code ({ cls := "java/lang/Object", name := "<init>", desc := "()V" } : Jvm.MethodName) object_method_1_code (1 : Nat) (Option.none : Option Jvm.ClassFile.FieldType), Jvm.Cond.code ({ cls := "java/lang/String", name := "valueOf", desc := "(C)Ljava/lang/String;" } : Jvm.MethodName) jdk_42_method_139_code (1 : Nat) (Option.some (Jvm.ClassFile.FieldType.object "java/lang/String")), Jvm.Cond.code ({ cls := "java/lang/StringLatin1", name := "canEncode", desc := "(C)Z" } : Jvm.MethodName) jdk_43_method_3_code (1 : Nat) (Option.some Jvm.ClassFile.FieldType.boolean), Jvm.Cond.code ({ cls := "java/lang/StringLatin1", name := "toBytes", desc := "(C)[B" } : Jvm.MethodName) jdk_43_method_46_code (1 : Nat) (Option.some (Jvm.ClassFile.FieldType.array Jvm.ClassFile.FieldType.byte)), Jvm.Cond.code ({ cls := "java/lang/String", name := "<init>", desc := "([BB)V" } : Jvm.MethodName) jdk_42_method_151_code (3 : Nat) (Option.none : Option Jvm.ClassFile.FieldType), Jvm.Cond.code ({ cls := "com/example/tracemass/tracemass/nets/PetriNet$TransitionNode", name := "<init>", desc := "(Ljava/lang/String;Ljava/lang/String;Z)V" } : Jvm.MethodName) prog_42_method_1_code (4 : Nat) (Option.none : Option Jvm.ClassFile.FieldType), Jvm.Cond.code ({ cls := "java/lang/Record", name := "<init>", desc := "()V" } : Jvm.MethodName) jdk_30_method_1_code (1 : Nat) (Option.none : Option Jvm.ClassFile.FieldType), Jvm.Cond.code ({ cls := "com/example/tracemass/tracemass/nets/PetriNet$TransitionNode", name := "label", desc := "()Ljava/lang/String;" } : Jvm.MethodName) prog_42_method_2_code (1 : Nat) (Option.some (Jvm.ClassFile.FieldType.object "java/lang/String")), Jvm.Cond.code ({ cls := "java/lang/String", name := "length", desc := "()I" } : Jvm.MethodName) jdk_42_method_54_code (1 : Nat) (Option.some Jvm.ClassFile.FieldType.int), Jvm.Cond.code ({ cls := "java/lang/String", name := "coder", desc := "()B" } : Jvm.MethodName) jdk_42_method_152_code (1 : Nat) (Option.some Jvm.ClassFile.FieldType.byte), Jvm.Cond.code ({ cls := "java/lang/String", name := "equals", desc := "(Ljava/lang/Object;)Z" } : Jvm.MethodName) jdk_42_method_66_code (3 : Nat) (Option.some Jvm.ClassFile.FieldType.boolean), Jvm.Cond.code ({ cls := "java/lang/StringLatin1", name := "equals", desc := "([B[B)Z" } : Jvm.MethodName) jdk_43_method_13_code (3 : Nat) (Option.some Jvm.ClassFile.FieldType.boolean), Jvm.Cond.code ({ cls := "java/lang/StringUTF16", name := "compress", desc := "([CII)[B" } : Jvm.MethodName) jdk_52_method_16_code (6 : Nat) (Option.some (Jvm.ClassFile.FieldType.array Jvm.ClassFile.FieldType.byte)), Jvm.Cond.code ({ cls := "java/lang/StringUTF16", name := "compress", desc := "([CI[BII)I" } : Jvm.MethodName) jdk_52_method_21_code (7 : Nat) (Option.some Jvm.ClassFile.FieldType.int), Jvm.Cond.code ({ cls := "java/lang/StringUTF16", name := "coderFromArrayLen", desc := "([BI)B" } : Jvm.MethodName) jdk_52_method_15_code (2 : Nat) (Option.some Jvm.ClassFile.FieldType.byte)]
set_option maxRecDepth 65536 in
theorem codes_eq : words1.filter isCode = codes1 := rfl
theorem w_codes : ∀ c ∈ words1.filter isCode, c.before args0 about1 = true := by
  rw [codes_eq]
  intro c hc
  simp only [codes1, List.mem_cons, List.not_mem_nil, or_false] at hc
  rcases hc with rfl | rfl | rfl | rfl | rfl | rfl | rfl | rfl | rfl | rfl | rfl | rfl | rfl | rfl | rfl | rfl | rfl | rfl
  · exact w_c0
  · exact w_c1
  · exact w_c2
  · exact w_c3
  · exact w_c4
  · exact w_c5
  · exact w_c6
  · exact w_c7
  · exact w_c8
  · exact w_c9
  · exact w_c10
  · exact w_c11
  · exact w_c12
  · exact w_c13
  · exact w_c14
  · exact w_c15
  · exact w_c16
  · exact w_c17
set_option maxRecDepth 65536 in
theorem w_t1 : (words1.take 24).all (fun c => isCode c || c.before args0 about1) = true := by decide +kernel
set_option maxRecDepth 65536 in
theorem w_t2 : ((words1.drop 24).take 24).all (fun c => isCode c || c.before args0 about1) = true := by decide +kernel
set_option maxRecDepth 65536 in
theorem w_t3 : (((words1.drop 24).drop 24).take 24).all (fun c => isCode c || c.before args0 about1) = true := by decide +kernel
set_option maxRecDepth 65536 in
theorem w_t4 : (((words1.drop 24).drop 24).drop 24).all (fun c => isCode c || c.before args0 about1) = true := by decide +kernel
theorem w_tables : (allAtoms (Jvm.Cond.code x code maxLocals ret :: tables_1)).before args0 about1 = true := by
  rw [allAtoms_all]
  show words1.all (fun c => c.before args0 about1) = true
  refine all_split ?_ w_codes
  rw [← List.take_append_drop 24 words1, List.all_append, w_t1, ← List.take_append_drop 24 (words1.drop 24), List.all_append, w_t2, ← List.take_append_drop 24 ((words1.drop 24).drop 24), List.all_append, w_t3, w_t4]
  rfl
set_option maxRecDepth 65536 in
theorem w_rest : rest_1_c.before args0 about1 = true := by decide +kernel
set_option maxRecDepth 65536 in
theorem w_case : (Jvm.Cond.and given_1 narrow_1).before args0 about1 = true := by decide +kernel
set_option maxRecDepth 65536 in
theorem w_consts : constsHeld consts_1 about1 := Jvm.Lit.constsHeldB_iff.mp (by decide +kernel)
theorem w_applies : (headSpec (Jvm.Cond.code x code maxLocals ret :: tables_1) room_1).applies x e0.platform about1 = true :=
  (Spec.applies_iff w_frames).mpr ⟨w_running, w_runnable, w_alone, w_named, w_hears, w_ripe, w_room, w_tables⟩
theorem atStart : AtStart classFile x code maxLocals ret World_1 tables_1 room_1 Calls_1 rest_1 Pre_1 launch0 p0 e0 about1 theMethod args0 below0 :=
  ⟨lists_1, trivial, launch0.admits_env _ _ _, launch0.least_env, fairChoices_fair.cas, fairChoices_fair.clock, w_frames, w_args, w_heap, w_applies, ⟨w_consts, trivial⟩, w_rest, w_case⟩
end start1
theorem witness_1 : WitnessClaimed_1 := ⟨start1.p0, start1.e0, start1.about1, start1.theMethod, start1.args0, start1.below0, start1.atStart⟩
end Jvm.Pilot.@@N@@
