import JvmDerived
import JvmDerived.Pilot.@@N@@Statement
import JvmDerived.Pilot.@@N@@Code
set_option linter.unusedVariables false
set_option linter.unusedSimpArgs false
namespace Jvm.Pilot.@@N@@
open Jvm Jvm.ClassFile Sem Op Lib Jvm.Free Jvm.Stand Jvm.LawKit Jvm.RoadKit Bundle Jvm.Pilot.@@N@@.Jvm.D
section OwnKit
variable {p : Program} {l : Launch} {e : Env} {R : Room} {s : State} {m : MethodId} {args : Array Value} {below : List Frame} {meth : Method} {c : Code} {T : State} {locs : List Loc} {cells slots : Nat} {bytes : ByteArray} {Φ : State → Prop} {pc pc' : Nat} {Ls Ls' : Array Slot} {rest : List Value} {Z : State} {a0 : Array Value} {h : Heap}
/-- the run from A ends in a state with the property Φ -/
def GoP (p : Program) (e : Env) (below : List Frame) (Φ : State → Prop) (A : State) : Prop := ∃ t, Steps p.tables e below A t ∧ Φ t
theorem own_step {A B : State} (h : ∀ t, Steps p.tables e below B t → Steps p.tables e below A t) (g : GoP p e below Φ B) : GoP p e below Φ A := by
  obtain ⟨t, h1, h2⟩ := g; exact ⟨t, h t h1, h2⟩
theorem own_trans {A B : State} (h : Steps p.tables e below A B) (g : GoP p e below Φ B) : GoP p e below Φ A := by
  obtain ⟨t, h1, h2⟩ := g; exact ⟨t, h.trans h1, h2⟩
theorem own_w {L : List Jvm.Cond} (hw : ∀ d ∈ L, d.before a0 Z = true) (i : Nat) {d : Jvm.Cond} (q : L[i]? = some d) : d.before a0 Z = true := hw d (List.mem_of_getElem? q)

theorem own_iload (X : Stand p l e R s m args below meth c T locs cells slots) (hx : p.tables.exec = Jvm.exec) (hby : c.code = bytes) {k : Nat} {x : Int32} (hd : decode bytes pc = .ok (.iload k, 2)) (hl : Ls[k]? = some (.val (.int x))) (hp : pc + 2 = pc') (k : GoP p e below Φ (T.setTop (mkF m pc' Ls (.int x :: rest)))) : GoP p e below Φ (T.setTop (mkF m pc Ls (rest))) := by
  subst hp
  exact own_step (fun t q => XS.iload X.here hx rfl (hb hby hd) hl q) k
theorem own_iloadN (X : Stand p l e R s m args below meth c T locs cells slots) (hx : p.tables.exec = Jvm.exec) (hby : c.code = bytes) {k : Fin 4} {x : Int32} (hd : decode bytes pc = .ok (.iload_n k, 1)) (hl : Ls[k.val]? = some (.val (.int x))) (hp : pc + 1 = pc') (k : GoP p e below Φ (T.setTop (mkF m pc' Ls (.int x :: rest)))) : GoP p e below Φ (T.setTop (mkF m pc Ls (rest))) := by
  subst hp
  exact own_step (fun t q => XS.iloadN X.here hx rfl (hb hby hd) hl q) k
theorem own_istore (X : Stand p l e R s m args below meth c T locs cells slots) (hx : p.tables.exec = Jvm.exec) (hby : c.code = bytes) {k : Nat} {x : Int32} (hd : decode bytes pc = .ok (.istore k, 2)) (hl : storeLocals Ls k (.int x) = some Ls') (hp : pc + 2 = pc') (k : GoP p e below Φ (T.setTop (mkF m pc' Ls' (rest)))) : GoP p e below Φ (T.setTop (mkF m pc Ls (.int x :: rest))) := by
  subst hp
  exact own_step (fun t q => XS.istore X.here hx rfl (hb hby hd) rfl hl q) k
theorem own_istoreN (X : Stand p l e R s m args below meth c T locs cells slots) (hx : p.tables.exec = Jvm.exec) (hby : c.code = bytes) {k : Fin 4} {x : Int32} (hd : decode bytes pc = .ok (.istore_n k, 1)) (hl : storeLocals Ls k.val (.int x) = some Ls') (hp : pc + 1 = pc') (k : GoP p e below Φ (T.setTop (mkF m pc' Ls' (rest)))) : GoP p e below Φ (T.setTop (mkF m pc Ls (.int x :: rest))) := by
  subst hp
  exact own_step (fun t q => XS.istoreN X.here hx rfl (hb hby hd) rfl hl q) k
theorem own_lloadN (X : Stand p l e R s m args below meth c T locs cells slots) (hx : p.tables.exec = Jvm.exec) (hby : c.code = bytes) {k : Fin 4} {x : Int64} (hd : decode bytes pc = .ok (.lload_n k, 1)) (hl : Ls[k.val]? = some (.val (.long x))) (hp : pc + 1 = pc') (k : GoP p e below Φ (T.setTop (mkF m pc' Ls (.long x :: rest)))) : GoP p e below Φ (T.setTop (mkF m pc Ls (rest))) := by
  subst hp
  exact own_step (fun t q => XS.lloadN X.here hx rfl (hb hby hd) hl q) k
theorem own_lstoreN (X : Stand p l e R s m args below meth c T locs cells slots) (hx : p.tables.exec = Jvm.exec) (hby : c.code = bytes) {k : Fin 4} {x : Int64} (hd : decode bytes pc = .ok (.lstore_n k, 1)) (hl : storeLocals Ls k.val (.long x) = some Ls') (hp : pc + 1 = pc') (k : GoP p e below Φ (T.setTop (mkF m pc' Ls' (rest)))) : GoP p e below Φ (T.setTop (mkF m pc Ls (.long x :: rest))) := by
  subst hp
  exact own_step (fun t q => XS.lstoreN X.here hx rfl (hb hby hd) rfl hl q) k
theorem own_aload (X : Stand p l e R s m args below meth c T locs cells slots) (hx : p.tables.exec = Jvm.exec) (hby : c.code = bytes) {k : Nat} {x : Value} (hd : decode bytes pc = .ok (.aload k, 2)) (hl : Ls[k]? = some (.val x)) (hr : x.isRef = true) (hp : pc + 2 = pc') (k : GoP p e below Φ (T.setTop (mkF m pc' Ls (x :: rest)))) : GoP p e below Φ (T.setTop (mkF m pc Ls (rest))) := by
  subst hp
  exact own_step (fun t q => XS.aload X.here hx rfl (hb hby hd) hl hr q) k
theorem own_aloadN (X : Stand p l e R s m args below meth c T locs cells slots) (hx : p.tables.exec = Jvm.exec) (hby : c.code = bytes) {k : Fin 4} {x : Value} (hd : decode bytes pc = .ok (.aload_n k, 1)) (hl : Ls[k.val]? = some (.val x)) (hr : x.isRef = true) (hp : pc + 1 = pc') (k : GoP p e below Φ (T.setTop (mkF m pc' Ls (x :: rest)))) : GoP p e below Φ (T.setTop (mkF m pc Ls (rest))) := by
  subst hp
  exact own_step (fun t q => XS.aloadN X.here hx rfl (hb hby hd) hl hr q) k
theorem own_astore (X : Stand p l e R s m args below meth c T locs cells slots) (hx : p.tables.exec = Jvm.exec) (hby : c.code = bytes) {k : Nat} {x : Value} (hd : decode bytes pc = .ok (.astore k, 2)) (hr : x.isRef = true) (hl : storeLocals Ls k x = some Ls') (hp : pc + 2 = pc') (k : GoP p e below Φ (T.setTop (mkF m pc' Ls' (rest)))) : GoP p e below Φ (T.setTop (mkF m pc Ls (x :: rest))) := by
  subst hp
  exact own_step (fun t q => XS.astore X.here hx rfl (hb hby hd) rfl hr hl q) k
theorem own_astoreN (X : Stand p l e R s m args below meth c T locs cells slots) (hx : p.tables.exec = Jvm.exec) (hby : c.code = bytes) {k : Fin 4} {x : Value} (hd : decode bytes pc = .ok (.astore_n k, 1)) (hr : x.isRef = true) (hl : storeLocals Ls k.val x = some Ls') (hp : pc + 1 = pc') (k : GoP p e below Φ (T.setTop (mkF m pc' Ls' (rest)))) : GoP p e below Φ (T.setTop (mkF m pc Ls (x :: rest))) := by
  subst hp
  exact own_step (fun t q => XS.astoreN X.here hx rfl (hb hby hd) rfl hr hl q) k
theorem own_iadd (X : Stand p l e R s m args below meth c T locs cells slots) (hx : p.tables.exec = Jvm.exec) (hby : c.code = bytes) {x y : Int32} (hd : decode bytes pc = .ok (.iadd, 1)) (hp : pc + 1 = pc') (k : GoP p e below Φ (T.setTop (mkF m pc' Ls (.int (x + y) :: rest)))) : GoP p e below Φ (T.setTop (mkF m pc Ls (.int y :: .int x :: rest))) := by
  subst hp
  exact own_step (fun t q => XS.iadd X.here hx rfl (hb hby hd) rfl q) k
theorem own_ladd (X : Stand p l e R s m args below meth c T locs cells slots) (hx : p.tables.exec = Jvm.exec) (hby : c.code = bytes) {x y : Int64} (hd : decode bytes pc = .ok (.ladd, 1)) (hp : pc + 1 = pc') (k : GoP p e below Φ (T.setTop (mkF m pc' Ls (.long (x + y) :: rest)))) : GoP p e below Φ (T.setTop (mkF m pc Ls (.long y :: .long x :: rest))) := by
  subst hp
  exact own_step (fun t q => XS.ladd X.here hx rfl (hb hby hd) rfl q) k
theorem own_isub (X : Stand p l e R s m args below meth c T locs cells slots) (hx : p.tables.exec = Jvm.exec) (hby : c.code = bytes) {x y : Int32} (hd : decode bytes pc = .ok (.isub, 1)) (hp : pc + 1 = pc') (k : GoP p e below Φ (T.setTop (mkF m pc' Ls (.int (x - y) :: rest)))) : GoP p e below Φ (T.setTop (mkF m pc Ls (.int y :: .int x :: rest))) := by
  subst hp
  exact own_step (fun t q => XS.isub X.here hx rfl (hb hby hd) rfl q) k
theorem own_lsub (X : Stand p l e R s m args below meth c T locs cells slots) (hx : p.tables.exec = Jvm.exec) (hby : c.code = bytes) {x y : Int64} (hd : decode bytes pc = .ok (.lsub, 1)) (hp : pc + 1 = pc') (k : GoP p e below Φ (T.setTop (mkF m pc' Ls (.long (x - y) :: rest)))) : GoP p e below Φ (T.setTop (mkF m pc Ls (.long y :: .long x :: rest))) := by
  subst hp
  exact own_step (fun t q => XS.lsub X.here hx rfl (hb hby hd) rfl q) k
theorem own_imul (X : Stand p l e R s m args below meth c T locs cells slots) (hx : p.tables.exec = Jvm.exec) (hby : c.code = bytes) {x y : Int32} (hd : decode bytes pc = .ok (.imul, 1)) (hp : pc + 1 = pc') (k : GoP p e below Φ (T.setTop (mkF m pc' Ls (.int (x * y) :: rest)))) : GoP p e below Φ (T.setTop (mkF m pc Ls (.int y :: .int x :: rest))) := by
  subst hp
  exact own_step (fun t q => XS.imul X.here hx rfl (hb hby hd) rfl q) k
theorem own_lmul (X : Stand p l e R s m args below meth c T locs cells slots) (hx : p.tables.exec = Jvm.exec) (hby : c.code = bytes) {x y : Int64} (hd : decode bytes pc = .ok (.lmul, 1)) (hp : pc + 1 = pc') (k : GoP p e below Φ (T.setTop (mkF m pc' Ls (.long (x * y) :: rest)))) : GoP p e below Φ (T.setTop (mkF m pc Ls (.long y :: .long x :: rest))) := by
  subst hp
  exact own_step (fun t q => XS.lmul X.here hx rfl (hb hby hd) rfl q) k
theorem own_iand (X : Stand p l e R s m args below meth c T locs cells slots) (hx : p.tables.exec = Jvm.exec) (hby : c.code = bytes) {x y : Int32} (hd : decode bytes pc = .ok (.iand, 1)) (hp : pc + 1 = pc') (k : GoP p e below Φ (T.setTop (mkF m pc' Ls (.int (x &&& y) :: rest)))) : GoP p e below Φ (T.setTop (mkF m pc Ls (.int y :: .int x :: rest))) := by
  subst hp
  exact own_step (fun t q => XS.iand X.here hx rfl (hb hby hd) rfl q) k
theorem own_ixor (X : Stand p l e R s m args below meth c T locs cells slots) (hx : p.tables.exec = Jvm.exec) (hby : c.code = bytes) {x y : Int32} (hd : decode bytes pc = .ok (.ixor, 1)) (hp : pc + 1 = pc') (k : GoP p e below Φ (T.setTop (mkF m pc' Ls (.int (x ^^^ y) :: rest)))) : GoP p e below Φ (T.setTop (mkF m pc Ls (.int y :: .int x :: rest))) := by
  subst hp
  exact own_step (fun t q => XS.ixor X.here hx rfl (hb hby hd) rfl q) k
theorem own_ishl (X : Stand p l e R s m args below meth c T locs cells slots) (hx : p.tables.exec = Jvm.exec) (hby : c.code = bytes) {x : Int32} {y : Int32} (hd : decode bytes pc = .ok (.ishl, 1)) (hp : pc + 1 = pc') (k : GoP p e below Φ (T.setTop (mkF m pc' Ls (.int (x <<< (y &&& 31)) :: rest)))) : GoP p e below Φ (T.setTop (mkF m pc Ls (.int y :: .int x :: rest))) := by
  subst hp
  exact own_step (fun t q => XS.ishl X.here hx rfl (hb hby hd) rfl q) k
theorem own_ishr (X : Stand p l e R s m args below meth c T locs cells slots) (hx : p.tables.exec = Jvm.exec) (hby : c.code = bytes) {x : Int32} {y : Int32} (hd : decode bytes pc = .ok (.ishr, 1)) (hp : pc + 1 = pc') (k : GoP p e below Φ (T.setTop (mkF m pc' Ls (.int (x >>> (y &&& 31)) :: rest)))) : GoP p e below Φ (T.setTop (mkF m pc Ls (.int y :: .int x :: rest))) := by
  subst hp
  exact own_step (fun t q => XS.ishr X.here hx rfl (hb hby hd) rfl q) k
theorem own_i2l (X : Stand p l e R s m args below meth c T locs cells slots) (hx : p.tables.exec = Jvm.exec) (hby : c.code = bytes) {x : Int32} (hd : decode bytes pc = .ok (.i2l, 1)) (hp : pc + 1 = pc') (k : GoP p e below Φ (T.setTop (mkF m pc' Ls (.long (x.toInt64) :: rest)))) : GoP p e below Φ (T.setTop (mkF m pc Ls (.int x :: rest))) := by
  subst hp
  exact own_step (fun t q => XS.i2l X.here hx rfl (hb hby hd) rfl q) k
theorem own_irem (X : Stand p l e R s m args below meth c T locs cells slots) (hx : p.tables.exec = Jvm.exec) (hby : c.code = bytes) {x y : Int32} (hd : decode bytes pc = .ok (.irem, 1)) (hy : y ≠ 0) (hp : pc + 1 = pc') (k : GoP p e below Φ (T.setTop (mkF m pc' Ls (.int (x % y) :: rest)))) : GoP p e below Φ (T.setTop (mkF m pc Ls (.int y :: .int x :: rest))) := by
  subst hp
  exact own_step (fun t q => iremM X hx rfl (hb hby hd) rfl hy q) k
theorem own_lcmp (X : Stand p l e R s m args below meth c T locs cells slots) (hx : p.tables.exec = Jvm.exec) (hby : c.code = bytes) {x y : Int64} (hd : decode bytes pc = .ok (.lcmp, 1)) (hp : pc + 1 = pc') (k : GoP p e below Φ (T.setTop (mkF m pc' Ls (.int (lcmpW x y) :: rest)))) : GoP p e below Φ (T.setTop (mkF m pc Ls (.long y :: .long x :: rest))) := by
  subst hp
  exact own_step (fun t q => XS.lcmp X.here hx rfl (hb hby hd) rfl q) k
theorem own_iconst (X : Stand p l e R s m args below meth c T locs cells slots) (hx : p.tables.exec = Jvm.exec) (hby : c.code = bytes) {i : Int} {v : Int32} (hd : decode bytes pc = .ok (.iconst i, 1)) (hv : Int32.ofInt i = v) (hp : pc + 1 = pc') (k : GoP p e below Φ (T.setTop (mkF m pc' Ls (.int v :: rest)))) : GoP p e below Φ (T.setTop (mkF m pc Ls (rest))) := by
  subst hp hv
  exact own_step (fun t q => XS.iconst X.here hx rfl (hb hby hd) q) k
theorem own_bipush (X : Stand p l e R s m args below meth c T locs cells slots) (hx : p.tables.exec = Jvm.exec) (hby : c.code = bytes) {i : Int} {v : Int32} (hd : decode bytes pc = .ok (.bipush i, 2)) (hv : (Int8.ofInt i).toInt32 = v) (hp : pc + 2 = pc') (k : GoP p e below Φ (T.setTop (mkF m pc' Ls (.int v :: rest)))) : GoP p e below Φ (T.setTop (mkF m pc Ls (rest))) := by
  subst hp hv
  exact own_step (fun t q => XS.bipush X.here hx rfl (hb hby hd) q) k
theorem own_lconst (X : Stand p l e R s m args below meth c T locs cells slots) (hx : p.tables.exec = Jvm.exec) (hby : c.code = bytes) {i : Fin 2} {v : Int64} (hd : decode bytes pc = .ok (.lconst i, 1)) (hv : Int64.ofNat i = v) (hp : pc + 1 = pc') (k : GoP p e below Φ (T.setTop (mkF m pc' Ls (.long v :: rest)))) : GoP p e below Φ (T.setTop (mkF m pc Ls (rest))) := by
  subst hp hv
  exact own_step (fun t q => XS.lconst X.here hx rfl (hb hby hd) q) k
theorem own_aconst_null (X : Stand p l e R s m args below meth c T locs cells slots) (hx : p.tables.exec = Jvm.exec) (hby : c.code = bytes) (hd : decode bytes pc = .ok (.aconst_null, 1)) (hp : pc + 1 = pc') (k : GoP p e below Φ (T.setTop (mkF m pc' Ls (.null :: rest)))) : GoP p e below Φ (T.setTop (mkF m pc Ls (rest))) := by
  subst hp
  exact own_step (fun t q => XS.aconstNull X.here hx rfl (hb hby hd) q) k
theorem own_dup (X : Stand p l e R s m args below meth c T locs cells slots) (hx : p.tables.exec = Jvm.exec) (hby : c.code = bytes) {x : Value} (hd : decode bytes pc = .ok (.dup, 1)) (hc : x.category = 1) (hp : pc + 1 = pc') (k : GoP p e below Φ (T.setTop (mkF m pc' Ls (x :: x :: rest)))) : GoP p e below Φ (T.setTop (mkF m pc Ls (x :: rest))) := by
  subst hp
  exact own_step (fun t q => XS.dup X.here hx rfl (hb hby hd) rfl hc q) k
theorem own_dup_x1 (X : Stand p l e R s m args below meth c T locs cells slots) (hx : p.tables.exec = Jvm.exec) (hby : c.code = bytes) {x y : Value} (hd : decode bytes pc = .ok (.dup_x1, 1)) (hc : x.category = 1) (hc' : y.category = 1) (hp : pc + 1 = pc') (k : GoP p e below Φ (T.setTop (mkF m pc' Ls (x :: y :: x :: rest)))) : GoP p e below Φ (T.setTop (mkF m pc Ls (x :: y :: rest))) := by
  subst hp
  exact own_step (fun t q => XS.dupX1 X.here hx rfl (hb hby hd) rfl hc hc' q) k
theorem own_iinc (X : Stand p l e R s m args below meth c T locs cells slots) (hx : p.tables.exec = Jvm.exec) (hby : c.code = bytes) {k0 : Nat} {i : Int} {x v : Int32} (hd : decode bytes pc = .ok (.iinc k0 i, 3)) (hl : Ls[k0]? = some (.val (.int x))) (hv : Int32.ofInt i = v) (hl' : storeLocals Ls k0 (.int (x + v)) = some Ls') (hp : pc + 3 = pc') (k : GoP p e below Φ (T.setTop (mkF m pc' Ls' (rest)))) : GoP p e below Φ (T.setTop (mkF m pc Ls (rest))) := by
  subst hp hv
  exact own_step (fun t q => XS.iinc X.here hx rfl (hb hby hd) hl hl' q) k
theorem own_goto (X : Stand p l e R s m args below meth c T locs cells slots) (hx : p.tables.exec = Jvm.exec) (hby : c.code = bytes) {o : Int} (hd : decode bytes pc = .ok (.goto o, 3)) (ho : 0 ≤ (pc : Int) + o) (hp : ((pc : Int) + o).toNat = pc') (k : GoP p e below Φ (T.setTop (mkF m pc' Ls (rest)))) : GoP p e below Φ (T.setTop (mkF m pc Ls (rest))) :=
  own_step (fun t q => XS.goto X.here hx rfl (pc0 := pc) (pc' := pc') rfl (hb hby hd) ho hp q) k
theorem own_ifY (X : Stand p l e R s m args below meth c T locs cells slots) (hx : p.tables.exec = Jvm.exec) (hby : c.code = bytes) {cd : ClassFile.Cond} {o : Int} {x : Int32} (hd : decode bytes pc = .ok (.ifCond cd o, 3)) (hc : ifCond.holds cd x = true) (ho : 0 ≤ (pc : Int) + o) (hp : ((pc : Int) + o).toNat = pc') (k : GoP p e below Φ (T.setTop (mkF m pc' Ls (rest)))) : GoP p e below Φ (T.setTop (mkF m pc Ls (.int x :: rest))) :=
  own_step (fun t q => XS.ifYes X.here hx rfl (pc0 := pc) (pc' := pc') rfl (hb hby hd) rfl hc ho hp q) k
theorem own_ifN (X : Stand p l e R s m args below meth c T locs cells slots) (hx : p.tables.exec = Jvm.exec) (hby : c.code = bytes) {cd : ClassFile.Cond} {o : Int} {x : Int32} (hd : decode bytes pc = .ok (.ifCond cd o, 3)) (hc : ifCond.holds cd x = false) (hp : pc + 3 = pc') (k : GoP p e below Φ (T.setTop (mkF m pc' Ls (rest)))) : GoP p e below Φ (T.setTop (mkF m pc Ls (.int x :: rest))) := by
  subst hp
  exact own_step (fun t q => XS.ifNo X.here hx rfl (hb hby hd) rfl hc q) k
theorem own_icmpY (X : Stand p l e R s m args below meth c T locs cells slots) (hx : p.tables.exec = Jvm.exec) (hby : c.code = bytes) {cd : ClassFile.Cond} {o : Int} {x y : Int32} (hd : decode bytes pc = .ok (.if_icmp cd o, 3)) (hc : if_icmp.holds cd x y = true) (ho : 0 ≤ (pc : Int) + o) (hp : ((pc : Int) + o).toNat = pc') (k : GoP p e below Φ (T.setTop (mkF m pc' Ls (rest)))) : GoP p e below Φ (T.setTop (mkF m pc Ls (.int y :: .int x :: rest))) :=
  own_step (fun t q => XS.icmpYes X.here hx rfl (pc0 := pc) (pc' := pc') rfl (hb hby hd) rfl hc ho hp q) k
theorem own_icmpN (X : Stand p l e R s m args below meth c T locs cells slots) (hx : p.tables.exec = Jvm.exec) (hby : c.code = bytes) {cd : ClassFile.Cond} {o : Int} {x y : Int32} (hd : decode bytes pc = .ok (.if_icmp cd o, 3)) (hc : if_icmp.holds cd x y = false) (hp : pc + 3 = pc') (k : GoP p e below Φ (T.setTop (mkF m pc' Ls (rest)))) : GoP p e below Φ (T.setTop (mkF m pc Ls (.int y :: .int x :: rest))) := by
  subst hp
  exact own_step (fun t q => XS.icmpNo X.here hx rfl (hb hby hd) rfl hc q) k
theorem own_ifnonnullY (X : Stand p l e R s m args below meth c T locs cells slots) (hx : p.tables.exec = Jvm.exec) (hby : c.code = bytes) {b : Addr} {o : Int} (hd : decode bytes pc = .ok (.ifnonnull o, 3)) (ho : 0 ≤ (pc : Int) + o) (hp : ((pc : Int) + o).toNat = pc') (k : GoP p e below Φ (T.setTop (mkF m pc' Ls (rest)))) : GoP p e below Φ (T.setTop (mkF m pc Ls (.ref b :: rest))) :=
  own_step (fun t q => XS.ifnonnullYes X.here hx rfl (pc0 := pc) (pc' := pc') rfl (hb hby hd) rfl ho hp q) k
theorem own_ifnonnullN (X : Stand p l e R s m args below meth c T locs cells slots) (hx : p.tables.exec = Jvm.exec) (hby : c.code = bytes) {o : Int} (hd : decode bytes pc = .ok (.ifnonnull o, 3)) (hp : pc + 3 = pc') (k : GoP p e below Φ (T.setTop (mkF m pc' Ls (rest)))) : GoP p e below Φ (T.setTop (mkF m pc Ls (.null :: rest))) := by
  subst hp
  exact own_step (fun t q => XS.ifnonnullNo X.here hx rfl (hb hby hd) rfl q) k
theorem own_acmp (X : Stand p l e R s m args below meth c T locs cells slots) (hx : p.tables.exec = Jvm.exec) (hby : c.code = bytes) {cd : ACond} {x y : Value} {o : Int} (hd : decode bytes pc = .ok (.if_acmp cd o, 3)) (h1 : x.isRef = true) (h2 : y.isRef = true) {same : Bool} (hq : decide (x = y) = same) (ho : 0 ≤ (pc : Int) + o) (hp : pc' = if acV cd same = true then ((pc : Int) + o).toNat else pc + 3) (k : GoP p e below Φ (T.setTop (mkF m pc' Ls (rest)))) : GoP p e below Φ (T.setTop (mkF m pc Ls (y :: x :: rest))) :=
  own_step (fun t q => Jvm.RoadKit.acmp (g := mkF m pc Ls (y :: x :: rest)) X hx rfl h1 h2 (pc0 := pc) (pc' := pc') (same := same) rfl (hb hby hd) rfl hq ho hp q) k
theorem own_ldcI (X : Stand p l e R s m args below meth c T locs cells slots) (hx : p.tables.exec = Jvm.exec) (hby : c.code = bytes) (hZ : Z.Warmed39 s.vm) {own : String} {i : Nat} {v : Int32} (hown : s.vm.findClass own = some m.cls) (w : (Jvm.Cond.constant own i v).before a0 Z = true) (hd : decode bytes pc = .ok (.ldc i, 2)) (hp : pc + 2 = pc') (k : GoP p e below Φ (T.setTop (mkF m pc' Ls (.int v :: rest)))) : GoP p e below Φ (T.setTop (mkF m pc Ls (rest))) := by
  subst hp
  exact own_step (fun t q => Jvm.Stand.ldcI X hx hown (mvT hZ w) rfl (hb hby hd) q) k
theorem own_ldc2J (X : Stand p l e R s m args below meth c T locs cells slots) (hx : p.tables.exec = Jvm.exec) (hby : c.code = bytes) (hZ : Z.Warmed39 s.vm) {own : String} {i : Nat} {v : Int64} (hown : s.vm.findClass own = some m.cls) (w : (Jvm.Cond.constantLong own i v).before a0 Z = true) (hd : decode bytes pc = .ok (.ldc2_w i, 3)) (hp : pc + 3 = pc') (k : GoP p e below Φ (T.setTop (mkF m pc' Ls (.long v :: rest)))) : GoP p e below Φ (T.setTop (mkF m pc Ls (rest))) := by
  subst hp
  exact own_step (fun t q => Jvm.Stand.ldc2J X hx hown (mvT hZ w) rfl (hb hby hd) q) k
theorem own_getF (X : Stand p l e R s m args below meth c T locs cells slots) (hx : p.tables.exec = Jvm.exec) (hby : c.code = bytes) (hZ : Z.Warmed39 s.vm) {own R0 O n d host : String} {index : Nat} (hown : s.vm.findClass own = some m.cls) (w : (Jvm.Cond.fieldLink own index R0 n d).before a0 Z = true ∨ (Jvm.Cond.fieldLinkNest own index R0 n d host).before a0 Z = true) (via : Via Z R0 O n d) (eT : T.heap = h) {a : Addr} {v : Value} (F : Fld Z h a O n d v) (hd : decode bytes pc = .ok (.getfield index, 3)) (hp : pc + 3 = pc') (k : ∀ T' : State, Stand p l e R s m args below meth c T' locs cells slots → T'.heap = h → GoP p e below Φ (T'.setTop (mkF m pc' Ls (v :: rest)))) : GoP p e below Φ (T.setTop (mkF m pc Ls (.ref a :: rest))) := by
  subst hp
  obtain ⟨T', X', e', st'⟩ := getF X hx hZ hown w via eT F (g := mkF m pc Ls (.ref a :: rest)) rfl rfl (hb hby hd)
  exact own_step st' (k T' X' e')
theorem own_getS (X : Stand p l e R s m args below meth c T locs cells slots) (hx : p.tables.exec = Jvm.exec) (hby : c.code = bytes) (hZ : Z.Warmed39 s.vm) {own R0 O n d host : String} {index : Nat} (hown : s.vm.findClass own = some m.cls) (w : (Jvm.Cond.fieldLink own index R0 n d).before a0 Z = true ∨ (Jvm.Cond.fieldLinkNest own index R0 n d host).before a0 Z = true) (via : Via Z R0 O n d) (eT : T.heap = h) {v : Value} (F : Sta Z h O n d v) (hd : decode bytes pc = .ok (.getstatic index, 3)) (hp : pc + 3 = pc') (k : ∀ T' : State, Stand p l e R s m args below meth c T' locs cells slots → T'.heap = h → GoP p e below Φ (T'.setTop (mkF m pc' Ls (v :: rest)))) : GoP p e below Φ (T.setTop (mkF m pc Ls (rest))) := by
  subst hp
  obtain ⟨T', X', e', st'⟩ := getS2 X hx hZ hown w via eT F (g := mkF m pc Ls rest) rfl (hb hby hd)
  exact own_step st' (k T' X' e')
theorem own_putF (X : Stand p l e R s m args below meth c T locs cells slots) (hx : p.tables.exec = Jvm.exec) (hby : c.code = bytes) (hZ : Z.Warmed39 s.vm) {own R0 O n d host : String} {index : Nat} (hown : s.vm.findClass own = some m.cls) (w : (Jvm.Cond.fieldLink own index R0 n d).before a0 Z = true ∨ (Jvm.Cond.fieldLinkNest own index R0 n d host).before a0 Z = true) (via : Via Z R0 O n d) (eT : T.heap = h) {C : String} {kk : Nat} {ty : FieldType} {a : Addr} {v old : Value} (F : Fld Z h a O n d old) (E : Exa Z h a C) (L : (Jvm.Cond.lays C O n d).before a0 Z = true ∨ ((Jvm.Cond.laysFinal C O n d).before a0 Z = true ∧ own = O ∧ meth.name = "<init>")) (wi : (Jvm.Cond.instantiable C kk).before a0 Z = true) (hty : parseFieldDescriptor d = some ty) (hn : narrow ty v = v) (hf : fits ty v = true) (hd : decode bytes pc = .ok (.putfield index, 3)) (hp : pc + 3 = pc') (k : ∀ (T' : State) (h' : Heap), Stand p l e R s m args below meth c T' (locs ++ [⟨a, Jvm.RoadKit.slotOf Z O n d⟩]) cells slots → T'.heap = h' → Wr h h' a (Jvm.RoadKit.slotOf Z O n d) v → GoP p e below Φ (T'.setTop (mkF m pc' Ls rest))) : GoP p e below Φ (T.setTop (mkF m pc Ls (v :: .ref a :: rest))) := by
  subst hp
  obtain ⟨T', h', X', e', W', st'⟩ := putF X hx hZ hown w via eT F E L wi hty hn hf (g := mkF m pc Ls (v :: .ref a :: rest)) rfl rfl (hb hby hd)
  exact own_step st' (k T' h' X' e' W')
/-- a contract of one body at one heap: with these arguments it returns, and Q says what it leaves -/
def Con (l : Launch) (Z : State) (y : MethodName) (bytes : ByteArray) (maxL : Nat) (ret : Option FieldType) (ws : List Jvm.Cond) (rm : Room) (as' : Array Value) (h0 : Heap) (Q : Option Value → Heap → List Loc → Prop) : Prop :=
  MetFree l y (head1 (Jvm.Cond.code y bytes maxL ret :: ws) rm) (fun a U => a = as' ∧ Z.Warmed39 U.vm ∧ U.heap = h0) (fun _ _ _ _ _ => True) (fun _ U o U' => ∃ v L, o = .returned v ∧ Q v U'.heap L ∧ FrameEnd U o U' L rm.cells rm.slots)
/-- where a body may end: at a state that stands, with a value that Q takes -/
def Fin (p : Program) (l : Launch) (e : Env) (R : Room) (s : State) (m : MethodId) (args : Array Value) (below : List Frame) (meth : Method) (c : Code) (Q : Option Value → State → List Loc → Prop) (Φ : State → Prop) : Prop :=
  ∀ (T : State) (locs : List Loc) (cells slots : Nat) (v : Option Value), Stand p l e R s m args below meth c T locs cells slots → (meth.sig.returnType = none → v = none) → Q v T locs → cells ≤ R.cells → slots ≤ R.slots →
    ∃ fs, (∀ (f : JFrame) (acts : List Action), f.method = m → f.locked = none → f.entered = [] → (doReturn e (T.setTop f) acts v).1 = T.setFrames fs) ∧ Φ (T.setFrames fs)
theorem Con.of {y : MethodName} {maxL : Nat} {ret : Option FieldType} {ws : List Jvm.Cond} {rm : Room} {as' : Array Value} {h0 : Heap} {Q : Option Value → Heap → List Loc → Prop} (hpn : plainFor y = true)
    (body : ∀ (p : Program) (e : Env) (s : State) (m : MethodId) (below : List Frame) (meth : Method) (c : Code) (T : State), Stand p l e rm s m as' below meth c T [] 0 0 → p.tables.exec = Jvm.exec → c.code = bytes → c.maxLocals = maxL → s.vm.findClass y.cls = some m.cls → meth.name = y.name → meth.sig.returnType = ret → T.heap = h0 → Z.Warmed39 s.vm → s.heap = h0 →
      ∀ Φ : State → Prop, Fin p l e rm s m as' below meth c (fun v T L => Q v T.heap L) Φ → GoP p e below Φ (T.setTop (entryFrame m as' maxL))) : Con l Z y bytes maxL ret ws rm as' h0 Q := by
  refine MetFree.of_bodySF hpn hisR ?_
  intro p e s m args below meth c s₁ Bd hml0 hP hK
  obtain ⟨rfl, hZ, hh⟩ := hP
  have e0 : s₁.heap = h0 := by rw [← hh, Bd.state]; rfl
  have hlk : meth.locks = false := Bd.notSynchronized
  obtain ⟨t, h1, o, h2⟩ := body p e s m below meth c s₁ (Stand.of_body Bd) Bd.exec Bd.bytes hml0 (findClass_of_methodNamed Bd.named) (name_of_methodNamed Bd.named Bd.method).1 Bd.returns e0 hZ hh
    (fun t => ∃ o, t.status = .running ∧ Ended t below o ∧ ∃ v L, o = .returned v ∧ Q v t.heap L ∧ FrameEnd s o t L rm.cells rm.slots)
    (fun T locs cells slots v X hv hQ hc hs => by
      obtain ⟨fs, hr, hrun, hended, hW, hsame⟩ := X.leave (v := v) hv hlk
      exact ⟨fs, hr, _, hrun, hended, v, locs, rfl, hQ, ⟨_, rfl⟩, hW, hsame.mono hc hs⟩)
  exact ⟨t, o, h1, h2⟩
theorem own_retV (X : Stand p l e R s m args below meth c T locs cells slots) (hx : p.tables.exec = Jvm.exec) (hby : c.code = bytes) {Q : Option Value → State → List Loc → Prop} (fin : Fin p l e R s m args below meth c Q Φ) {t : FieldType} (hret : meth.sig.returnType = some t) {w : Value} {i : Instr} (hn : narrow t w = w)
    (hi : (i = .ireturn ∧ (t = .int ∨ t = .boolean ∨ t = .byte ∨ t = .char ∨ t = .short) ∧ ∃ z, w = .int z) ∨ (i = .lreturn ∧ t = .long ∧ ∃ z, w = .long z) ∨ (i = .dreturn ∧ t = .double ∧ ∃ z, w = .double z) ∨ (i = .freturn ∧ t = .float ∧ ∃ z, w = .float z) ∨ (i = .areturn ∧ t.isReference = true ∧ w.isRef = true))
    (hd : decode bytes pc = .ok (i, 1)) (hc : cells ≤ R.cells) (hs : slots ≤ R.slots) (hQ : Q (some w) T locs) : GoP p e below Φ (T.setTop (mkF m pc Ls (w :: rest))) := by
  obtain ⟨fs, hr, hΦ⟩ := fin _ _ _ _ (some w) X (fun q => by rw [hret] at q; cases q) hQ hc hs
  exact ⟨_, retOut X hx hret hn hi (hb hby hd) hr, hΦ⟩
theorem own_retI (X : Stand p l e R s m args below meth c T locs cells slots) (hx : p.tables.exec = Jvm.exec) (hby : c.code = bytes) {Q : Option Value → State → List Loc → Prop} (fin : Fin p l e R s m args below meth c Q Φ) (hret : meth.sig.returnType = some .int) {z : Int32} (hd : decode bytes pc = .ok (.ireturn, 1)) (hc : cells ≤ R.cells) (hs : slots ≤ R.slots) (hQ : Q (some (.int z)) T locs) : GoP p e below Φ (T.setTop (mkF m pc Ls (.int z :: rest))) :=
  own_retV X hx hby fin hret rfl (Or.inl ⟨rfl, Or.inl rfl, z, rfl⟩) hd hc hs hQ
theorem own_retN (X : Stand p l e R s m args below meth c T locs cells slots) (hx : p.tables.exec = Jvm.exec) (hby : c.code = bytes) {Q : Option Value → State → List Loc → Prop} (fin : Fin p l e R s m args below meth c Q Φ) {t : FieldType} (hret : meth.sig.returnType = some t) (ht : t = .int ∨ t = .boolean ∨ t = .byte ∨ t = .char ∨ t = .short) {z : Int32} (hn : narrow t (.int z) = .int z) (hd : decode bytes pc = .ok (.ireturn, 1)) (hc : cells ≤ R.cells) (hs : slots ≤ R.slots) (hQ : Q (some (.int z)) T locs) : GoP p e below Φ (T.setTop (mkF m pc Ls (.int z :: rest))) :=
  own_retV X hx hby fin hret hn (Or.inl ⟨rfl, ht, z, rfl⟩) hd hc hs hQ
theorem own_retJ (X : Stand p l e R s m args below meth c T locs cells slots) (hx : p.tables.exec = Jvm.exec) (hby : c.code = bytes) {Q : Option Value → State → List Loc → Prop} (fin : Fin p l e R s m args below meth c Q Φ) (hret : meth.sig.returnType = some .long) {z : Int64} (hd : decode bytes pc = .ok (.lreturn, 1)) (hc : cells ≤ R.cells) (hs : slots ≤ R.slots) (hQ : Q (some (.long z)) T locs) : GoP p e below Φ (T.setTop (mkF m pc Ls (.long z :: rest))) :=
  own_retV X hx hby fin hret rfl (Or.inr (Or.inl ⟨rfl, rfl, z, rfl⟩)) hd hc hs hQ
theorem own_retA (X : Stand p l e R s m args below meth c T locs cells slots) (hx : p.tables.exec = Jvm.exec) (hby : c.code = bytes) {Q : Option Value → State → List Loc → Prop} (fin : Fin p l e R s m args below meth c Q Φ) {t : FieldType} (hret : meth.sig.returnType = some t) (ht : t.isReference = true) {w : Value} (hw : w.isRef = true) (hn : narrow t w = w) (hd : decode bytes pc = .ok (.areturn, 1)) (hc : cells ≤ R.cells) (hs : slots ≤ R.slots) (hQ : Q (some w) T locs) : GoP p e below Φ (T.setTop (mkF m pc Ls (w :: rest))) :=
  own_retV X hx hby fin hret hn (Or.inr (Or.inr (Or.inr (Or.inr ⟨rfl, ht, hw⟩)))) hd hc hs hQ
theorem own_ret0 (X : Stand p l e R s m args below meth c T locs cells slots) (hx : p.tables.exec = Jvm.exec) (hby : c.code = bytes) {Q : Option Value → State → List Loc → Prop} (fin : Fin p l e R s m args below meth c Q Φ) (hret : meth.sig.returnType = none) (hd : decode bytes pc = .ok (.return_, 1)) (hc : cells ≤ R.cells) (hs : slots ≤ R.slots) (hQ : Q none T locs) : GoP p e below Φ (T.setTop (mkF m pc Ls ([]))) := by
  obtain ⟨fs, hr, hΦ⟩ := fin _ _ _ _ none X (fun _ => rfl) hQ hc hs
  exact ⟨_, X.returnOut hx hret (hb hby hd) hr, hΦ⟩
theorem own_callS (X : Stand p l e R s m args below meth c T locs cells slots) (hx : p.tables.exec = Jvm.exec) (hby : c.code = bytes) (hZ : Z.Warmed39 s.vm) (hml : Ls.size = c.maxLocals) {own : String} {index : Nat} {y : MethodName} (hown : s.vm.findClass own = some m.cls) (w1 : (Jvm.Cond.methodLink own index y).before a0 Z = true) (w2 : (Jvm.Cond.static y).before a0 Z = true) (w3 : (Jvm.Cond.initialized y.cls).before a0 Z = true) {bytes' : ByteArray} {maxL : Nat} {ret : Option FieldType} (w4 : (Jvm.Cond.code y bytes' maxL ret).before a0 Z = true) (hy : y.cls ≠ "java/lang/invoke/MethodHandle" ∧ y.cls ≠ "java/lang/invoke/VarHandle") {rm : Room} {Q : Option Value → Heap → List Loc → Prop} (eT : T.heap = h) (W : Nat) (hf : rm.frames + 1 ≤ R.frames) (hl : W + (maxL + 11) + rm.locals ≤ R.locals) (hc : cells + rm.cells ≤ R.cells) (hs : slots + rm.slots ≤ R.slots) {argsL rest : List Value} {st : List Value} (hlen : ∀ sig, parseMethodDescriptor y.desc = some sig → argsL.length = sig.parameters.length) (hst : st = argsL.reverse ++ rest) (hM : Con l Z y bytes' maxL ret [] rm argsL.toArray h Q) (hW : (rest.map fun v => v.category).sum ≤ W) (hd : decode bytes pc = .ok (.invokestatic index, 3)) (hp : pc + 3 = pc') (k : ∀ (v : Option Value) (T' : State) (L : List Loc), Stand p l e R s m args below meth c T' (locs ++ L) (cells + rm.cells) (slots + rm.slots) → Q v T'.heap L → GoP p e below Φ (T'.setTop (mkF m pc' Ls (v.toList ++ rest)))) : GoP p e below Φ (T.setTop (mkF m pc Ls st)) := by
  obtain ⟨v, _, ⟨T', L', k', n'⟩, -, X', ⟨L, hQ, l1, y1, z1⟩, st'⟩ := Jvm.LawKit.callS X hx (y := y) hown (mvT hZ w1) (mvT hZ w2) (mvT hZ w3) (mvT hZ w4) hy (backOf (W := W) hM hZ w4 w3 hf hl) (g := mkF m pc Ls st) rfl hml (argsL := argsL) (rest := rest) hlen hst (by show 2 * 0 + _ ≤ _; omega) (hb hby hd) (fun _ _ => ⟨rfl, eT, hc, hs⟩)
  dsimp only [Pt.U, Pt.locs, Pt.cells, Pt.slots] at X' l1 y1 z1 st' hQ
  subst l1 y1 z1 hp
  exact own_step st' (k _ _ _ X' hQ)
theorem own_callI (X : Stand p l e R s m args below meth c T locs cells slots) (hx : p.tables.exec = Jvm.exec) (hby : c.code = bytes) (hZ : Z.Warmed39 s.vm) (hml : Ls.size = c.maxLocals) {own : String} {index : Nat} {y : MethodName} (hown : s.vm.findClass own = some m.cls) {a : Addr} (hn : y.name = "<init>") (w1 : (Jvm.Cond.methodLink own index y).before a0 Z = true) (w2 : (Jvm.Cond.instanceMethod y).before a0 Z = true) (w3 : (Jvm.Cond.initialized y.cls).before a0 Z = true) {bytes' : ByteArray} {maxL : Nat} (w4 : (Jvm.Cond.code y bytes' maxL none).before a0 Z = true) (hy : y.cls ≠ "java/lang/invoke/MethodHandle" ∧ y.cls ≠ "java/lang/invoke/VarHandle") {rm : Room} {Q : Option Value → Heap → List Loc → Prop} (eT : T.heap = h) (W : Nat) (hf : rm.frames + 1 ≤ R.frames) (hl : W + (maxL + 11) + rm.locals ≤ R.locals) (hc : cells + rm.cells ≤ R.cells) (hs : slots + rm.slots ≤ R.slots) {argsL rest : List Value} {st : List Value} (hlen : ∀ sig, parseMethodDescriptor y.desc = some sig → argsL.length = sig.parameters.length) (hst : st = argsL.reverse ++ .ref a :: rest) (hW : (rest.map fun v => v.category).sum ≤ W) (hM : Con l Z y bytes' maxL none [] rm (.ref a :: argsL).toArray h Q) (hd : decode bytes pc = .ok (.invokespecial index, 3)) (hp : pc + 3 = pc') (k : ∀ (v : Option Value) (T' : State) (L : List Loc), Stand p l e R s m args below meth c T' (locs ++ L) (cells + rm.cells) (slots + rm.slots) → Q v T'.heap L → GoP p e below Φ (T'.setTop (mkF m pc' Ls (v.toList ++ rest)))) : GoP p e below Φ (T.setTop (mkF m pc Ls st)) := by
  obtain ⟨v, _, ⟨T', L', k', n'⟩, -, X', ⟨L, hQ, l1, y1, z1⟩, st'⟩ := X.specialBack hx (y := y) hn hown (mvT hZ w1) (mvT hZ w2) (mvT hZ w4) hy (backOf (W := W) hM hZ w4 w3 hf hl) (g := mkF m pc Ls st) rfl hml (Steps.refl _) (a := a) (argsL := argsL) (rest := rest) hlen hst (by show 2 * 0 + _ ≤ _; omega) (hb hby hd) (fun _ _ => ⟨rfl, eT, hc, hs⟩)
  dsimp only [Pt.U, Pt.locs, Pt.cells, Pt.slots] at X' l1 y1 z1 st' hQ
  subst l1 y1 z1 hp
  exact own_trans st' (k _ _ _ X' hQ)
theorem own_callV (X : Stand p l e R s m args below meth c T locs cells slots) (hx : p.tables.exec = Jvm.exec) (hby : c.code = bytes) (hZ : Z.Warmed39 s.vm) (hml : Ls.size = c.maxLocals) {own : String} {index : Nat} {y : MethodName} (hown : s.vm.findClass own = some m.cls) {C : String} {b : Addr} (w1 : (Jvm.Cond.methodLink own index y).before a0 Z = true) (w2 : (Jvm.Cond.declares y).before a0 Z = true) (w5 : (Jvm.Cond.selects C y y).before a0 Z = true) (w6 : (Jvm.Cond.instanceMethod y).before a0 Z = true) (w3 : (Jvm.Cond.initialized y.cls).before a0 Z = true) {bytes' : ByteArray} {maxL : Nat} {ret : Option FieldType} (w4 : (Jvm.Cond.code y bytes' maxL ret).before a0 Z = true) (hy : y.cls ≠ "java/lang/invoke/MethodHandle" ∧ y.cls ≠ "java/lang/invoke/VarHandle") {rm : Room} {Q : Option Value → Heap → List Loc → Prop} (eT : T.heap = h) (W : Nat) (hf : rm.frames + 1 ≤ R.frames) (hl : W + (maxL + 11) + rm.locals ≤ R.locals) (hc : cells + rm.cells ≤ R.cells) (hs : slots + rm.slots ≤ R.slots) {argsL rest : List Value} {st : List Value} (hlen : ∀ sig, parseMethodDescriptor y.desc = some sig → argsL.length = sig.parameters.length) (hst : st = argsL.reverse ++ .ref b :: rest) (hW : (rest.map fun v => v.category).sum ≤ W) (E : Exa Z h b C) (hM : Con l Z y bytes' maxL ret [] rm (.ref b :: argsL).toArray h Q) (hd : decode bytes pc = .ok (.invokevirtual index, 3)) (hp : pc + 3 = pc') (k : ∀ (v : Option Value) (T' : State) (L : List Loc), Stand p l e R s m args below meth c T' (locs ++ L) (cells + rm.cells) (slots + rm.slots) → Q v T'.heap L → GoP p e below Φ (T'.setTop (mkF m pc' Ls (v.toList ++ rest)))) : GoP p e below Φ (T.setTop (mkF m pc Ls st)) := by
  obtain ⟨cq, kq, qa, qb, qc⟩ := isOf hZ eT E
  obtain ⟨v, _, ⟨T', L', k', n'⟩, -, X', ⟨L, hQ, l1, y1, z1⟩, st'⟩ := X.virtualBack hx (y := y) (z := y) hown (mvT hZ w1) (mvT hZ w2) (notFace_of_selects (args := #[]) (mvT hZ w5)) (mvT hZ w5) (mvT hZ w6) hy (backOf (W := W) hM hZ w4 w3 hf hl) qa qc (g := mkF m pc Ls st) rfl hml (Steps.refl _) (argsL := argsL) (rest := rest) hlen hst (by show 2 * 0 + _ ≤ _; omega) (hb hby hd) (fun _ _ => ⟨rfl, eT, hc, hs⟩)
  dsimp only [Pt.U, Pt.locs, Pt.cells, Pt.slots] at X' l1 y1 z1 st' hQ
  subst l1 y1 z1 hp
  exact own_trans st' (k _ _ _ X' hQ)
theorem own_callP (X : Stand p l e R s m args below meth c T locs cells slots) (hx : p.tables.exec = Jvm.exec) (hby : c.code = bytes) (hZ : Z.Warmed39 s.vm) (hml : Ls.size = c.maxLocals) {own : String} {index : Nat} {y : MethodName} (hown : s.vm.findClass own = some m.cls) {C : String} {b : Addr} (w1 : (Jvm.Cond.methodLink own index y).before a0 Z = true) (w2 : (Jvm.Cond.privateMethod y).before a0 Z = true) (w5 : (Jvm.Cond.selects y.cls y y).before a0 Z = true) (w6 : (Jvm.Cond.instanceMethod y).before a0 Z = true) (w3 : (Jvm.Cond.initialized y.cls).before a0 Z = true) {bytes' : ByteArray} {maxL : Nat} {ret : Option FieldType} (w4 : (Jvm.Cond.code y bytes' maxL ret).before a0 Z = true) (hy : y.cls ≠ "java/lang/invoke/MethodHandle" ∧ y.cls ≠ "java/lang/invoke/VarHandle") {rm : Room} {Q : Option Value → Heap → List Loc → Prop} (eT : T.heap = h) (W : Nat) (hf : rm.frames + 1 ≤ R.frames) (hl : W + (maxL + 11) + rm.locals ≤ R.locals) (hc : cells + rm.cells ≤ R.cells) (hs : slots + rm.slots ≤ R.slots) {argsL rest : List Value} {st : List Value} (hlen : ∀ sig, parseMethodDescriptor y.desc = some sig → argsL.length = sig.parameters.length) (hst : st = argsL.reverse ++ .ref b :: rest) (hW : (rest.map fun v => v.category).sum ≤ W) (E : Exa Z h b C) (hM : Con l Z y bytes' maxL ret [] rm (.ref b :: argsL).toArray h Q) (hd : decode bytes pc = .ok (.invokevirtual index, 3)) (hp : pc + 3 = pc') (k : ∀ (v : Option Value) (T' : State) (L : List Loc), Stand p l e R s m args below meth c T' (locs ++ L) (cells + rm.cells) (slots + rm.slots) → Q v T'.heap L → GoP p e below Φ (T'.setTop (mkF m pc' Ls (v.toList ++ rest)))) : GoP p e below Φ (T.setTop (mkF m pc Ls st)) := by
  obtain ⟨cq, q1, q2⟩ := E.cell
  obtain ⟨v, _, ⟨T', L', k', n'⟩, -, X', ⟨L, hQ, l1, y1, z1⟩, st'⟩ := X.privateBack hx (y := y) hown (mvT hZ w1) (mvT hZ w6) (mvT hZ w5) (Cond.privateMethod_at (mvP hZ w2 (args := #[]))) (mvT hZ w4) hy (backOf (W := W) hM hZ w4 w3 hf hl) (g := mkF m pc Ls st) rfl hml (Steps.refl _) (a := b) (by rw [eT]; exact q1) q2 (argsL := argsL) (rest := rest) hlen hst (by show 2 * 0 + _ ≤ _; omega) (hb hby hd) (fun _ _ => ⟨rfl, eT, hc, hs⟩)
  dsimp only [Pt.U, Pt.locs, Pt.cells, Pt.slots] at X' l1 y1 z1 st' hQ
  subst l1 y1 z1 hp
  exact own_trans st' (k _ _ _ X' hQ)
theorem own_fldI {args : Array Value} {s : State} {t : Term} {a : Addr} {C n d : String} {k : Int32} (ev : t.eval args s none [] s = some (.ref a)) (q : (Jvm.Cond.eq (Jvm.Term.field t C n d) (Jvm.Term.int k)).value args s none s [] = some true) : Fld s s.heap a C n d (.int k) := by
  obtain ⟨x, y, e1, e2, k1, k2⟩ := cmp_v (Or.inl q)
  have ey : y = .int k := Option.some.inj (e2.symm.trans (Term.int_eval k))
  subst ey
  obtain ⟨z, rfl⟩ : ∃ z, x = .int z := k2
  have ez : z = k := by simpa [Cond.value, e1, e2] using q
  subst ez
  exact Fld.start ((fld_at ev).symm.trans e1)
theorem own_stakeep {C n d : String} {w : Value} {h' : Heap} {ws : List Addr} (F : Sta Z h C n d w) (K : Keep h h' ws) (q : ∀ x ∈ ws, ∀ c : Cell, h[x]? = some c → c.vm.isStatics = false) : Sta Z h' C n d w := by
  obtain ⟨cf, i, k, f, st, cell, h1, h2, h3, h4, h5, h6, h7⟩ := F
  exact ⟨cf, i, k, f, st, cell, h1, h2, h3, h4, K.2.1 st cell h5 (fun y => by rw [q st y cell h5] at h6; cases h6), h6, h7⟩
/-- an int array of length n, of whatever ints -/
def IA (Z : State) (h : Heap) (a : Addr) (n : Int32) : Prop := ∃ cl : Cell, Arr Z h a cl .int ∧ cl.slots.size = n.toNatClampNeg ∧ ¬ n < 0 ∧ ∀ i, i < cl.slots.size → ∃ x, cl.slots[i]? = some (.int x)
theorem IA.lt {a : Addr} {n : Int32} (F : IA Z h a n) : a < h.size := by obtain ⟨cl, A, -⟩ := F; exact A.lt
theorem IA.ext {a : Addr} {n : Int32} {h' : Heap} (F : IA Z h a n) (E : Ext h h') : IA Z h' a n := by obtain ⟨cl, A, r⟩ := F; exact ⟨cl, A.ext E, r⟩
theorem IA.other {a b : Addr} {n : Int32} {h' : Heap} {sl : Nat} {v : Value} (F : IA Z h b n) (W : Wr h h' a sl v) (q : b ≠ a) : IA Z h' b n := by obtain ⟨cl, A, r⟩ := F; exact ⟨cl, A.other W q, r⟩
theorem IA.keep {a : Addr} {n : Int32} {h' : Heap} {ws : List Addr} (F : IA Z h a n) (K : Keep h h' ws) (q : a ∉ ws) : IA Z h' a n := by obtain ⟨cl, A, r⟩ := F; exact ⟨cl, ⟨K.2.1 a cl A.1 q, A.2⟩, r⟩
theorem IA.plain {a : Addr} {n : Int32} (F : IA Z h a n) : ∀ c : Cell, h[a]? = some c → c.vm.isStatics = false := fun c hc => by
  obtain ⟨cl, A, -⟩ := F
  cases hc.symm.trans A.1; exact A.plain
theorem IA.arv {a : Addr} {n : Int32} (F : IA Z h a n) : ∃ k vs, Arv Z h a k .int n vs (.int 0) ∧ vs.length = n.toNatClampNeg := by
  obtain ⟨cl, A, S, N, H⟩ := F
  have q : ∀ i, i < cl.slots.size → cl.slots[i]? = some (cl.slots.toList.getD i (.int 0)) := fun i hi => by
    rw [List.getD_eq_getElem?_getD, Array.getElem?_toList, Array.getElem?_eq_getElem hi]; rfl
  refine ⟨cl.cls, cl.slots.toList, ⟨cl, A, rfl, S, N, q, fun i hi => ?_⟩, by rw [Array.length_toList]; exact S⟩
  obtain ⟨x, hx⟩ := H i hi
  rw [← Option.some.inj ((hx.symm.trans (q i hi)))]; rfl
theorem IA.of {a : Addr} {n : Int32} {k : ClassId} {vs : List Value} {d : Value} (F : Arv Z h a k .int n vs d) : IA Z h a n := by
  obtain ⟨cl, A, -, S, N, H, G⟩ := F
  refine ⟨cl, A, S, N, fun i hi => ?_⟩
  obtain ⟨x, hx⟩ := fit_I (G i hi) (Or.inl rfl)
  exact ⟨x, by rw [H i hi, hx]⟩
theorem own_geI {x y : Int32} (q : y.toInt ≤ x.toInt) : ¬ x < y := fun u => by rw [Int32.lt_iff_toInt_lt] at u; omega
theorem IA.new {a : Addr} {k : ClassId} {n : Int32} (A : Arr Z h a (newA k .int n) .int) (q : ¬ n < 0) : IA Z h a n :=
  ⟨_, A, sz_new _ _ _, q, fun i hi => ⟨0, by simp [newA] at hi ⊢; simp [defaultValue, hi]⟩⟩
end OwnKit
section OwnKitW
variable {p : Program} {l : Launch} {e : Env} {R : Room} {s : State} {vm0 : Vm} {m : MethodId} {args : Array Value} {below : List Frame} {meth : Method} {c : Code} {T : State} {locs : List Loc} {cells slots : Nat} {bytes : ByteArray} {Φ : State → Prop} {pc pc' : Nat} {Ls Ls' : Array Slot} {rest : List Value} {Z : State} {a0 : Array Value} {h : Heap} {k0 : Nat}
def ConW (l : Launch) (Z : State) (y : MethodName) (bytes : ByteArray) (maxL : Nat) (ret : Option FieldType) (ws : List Jvm.Cond) (rm : Room) (as' : Array Value) (h0 : Heap) (Q : Option Value → Heap → List Loc → Prop) : Prop :=
  MetFree l y (head1 (Jvm.Cond.code y bytes maxL ret :: ws) rm) (fun a U => a = as' ∧ Z.Warmed39 U.vm ∧ U.heap = h0) (fun _ _ _ _ _ => True) (fun _ U o U' => ∃ v L, o = .returned v ∧ Q v U'.heap L ∧ ReturnedEndW U o U' L rm.cells rm.slots)
def FinW (p : Program) (l : Launch) (e : Env) (R : Room) (s : State) (m : MethodId) (args : Array Value) (below : List Frame) (meth : Method) (c : Code) (Q : Option Value → Heap → List Loc → Prop) (Φ : State → Prop) : Prop :=
  ∀ (vm0 : Vm) (k0 : Nat), s.Since vm0 k0 → Fin p l e R (s.setVm vm0) m args below meth c (fun v T L => Q v T.heap L ∧ k0 ≤ T.heap.size) Φ
theorem ConW.of {y : MethodName} {maxL : Nat} {ret : Option FieldType} {ws : List Jvm.Cond} {rm : Room} {as' : Array Value} {h0 : Heap} {Q : Option Value → Heap → List Loc → Prop} (hpn : plainFor y = true)
    (body : ∀ (p : Program) (e : Env) (s : State) (m : MethodId) (below : List Frame) (meth : Method) (c : Code) (T : State) (vm0 : Vm) (k0 : Nat), Stand p l e rm (s.setVm vm0) m as' below meth c T [] 0 0 → p.tables.exec = Jvm.exec → c.code = bytes → c.maxLocals = maxL → vm0.findClass y.cls = some m.cls → meth.name = y.name → meth.sig.returnType = ret → T.heap = h0 → Z.Warmed39 vm0 → s.heap = h0 → s.Since vm0 k0 → k0 ≤ h0.size →
      ∀ Φ : State → Prop, FinW p l e rm s m as' below meth c Q Φ → GoP p e below Φ (T.setTop (entryFrame m as' maxL))) : ConW l Z y bytes maxL ret ws rm as' h0 Q := by
  refine MetFree.of_bodySF hpn hisR ?_
  intro p e s m args below meth c s₁ Bd hml0 hP hK
  obtain ⟨rfl, hZ, hh⟩ := hP
  have e0 : s₁.heap = h0 := by rw [← hh, Bd.state]; rfl
  have hlk : meth.locks = false := Bd.notSynchronized
  obtain ⟨t, h1, o, h2⟩ := body p e s m below meth c s₁ s.vm h0.size (Stand.of_body Bd) Bd.exec Bd.bytes hml0 (findClass_of_methodNamed Bd.named) (name_of_methodNamed Bd.named Bd.method).1 Bd.returns e0 hZ hh ((State.WarmedH.refl s).since _) (Nat.le_refl _)
    (fun t => ∃ o, t.status = .running ∧ Ended t below o ∧ ∃ v L, o = .returned v ∧ Q v t.heap L ∧ ReturnedEndW s o t L rm.cells rm.slots)
    (fun vm0 k0 hS T locs cells slots v X hv hQ hc hs => by
      obtain ⟨fs, hr, hrun, hended, hW, hsame⟩ := X.leave (v := v) hv hlk
      obtain ⟨r1, r2, r3⟩ := hS.ended hW hQ.2 hsame
      exact ⟨fs, hr, _, hrun, hended, v, locs, rfl, hQ.1, ⟨_, rfl⟩, r1, r2, r3.mono hc hs⟩)
  exact ⟨t, o, h1, h2⟩
theorem own_ldcS (X : Stand p l e R (s.setVm vm0) m args below meth c T locs cells slots) (hx : p.tables.exec = Jvm.exec) (hby : c.code = bytes) (hZ : Z.Warmed39 vm0) {own text : String} {i : Nat} (hown : vm0.findClass own = some m.cls) (w : (Jvm.Cond.stringLink own i text).before a0 Z = true) (wS : ∀ a ∈ Bundle.stringAtoms, a.before a0 Z = true) (eT : T.heap = h) (hS : s.Since vm0 k0) (hk : k0 ≤ h.size) (hd : decode bytes pc = .ok (.ldc i, 2)) (n : Nat) (hn : 4 * text.toList.length ≤ n) (hbig : n ≤ 536870912) (hc : cells + 2 ≤ R.cells) (hl : slots + (n + 4) ≤ R.slots) (hp : pc + 2 = pc')
    (k : ∀ (a : Addr) (T' : State) (h' : Heap) (k1 : Nat), Stand p l e R (s.setVm T'.vm) m args below meth c T' locs (cells + 2) (slots + (n + 4)) → T'.heap = h' → Ext h h' → s.Since T'.vm k1 → k1 ≤ h'.size → Z.Warmed39 T'.vm → T'.vm.findClass own = some m.cls → GoP p e below Φ (T'.setTop (mkF m pc' Ls (.ref a :: rest)))) : GoP p e below Φ (T.setTop (mkF m pc Ls (rest))) := by
  subst hp
  obtain ⟨a, T', h', k1, X', e', E', hS', hk', hZ', hown', st'⟩ := Jvm.RoadKit.ldcS X hx hZ hown w wS eT hS hk (g := mkF m pc Ls rest) rfl (hb hby hd) hn hbig hc hl
  exact own_step st' (k a T' h' k1 X' e' E' hS' hk' hZ' hown')
end OwnKitW
section OwnKitV
variable {p : Program} {l : Launch} {e : Env} {R : Room} {s : State} {m : MethodId} {args : Array Value} {below : List Frame} {meth : Method} {c : Code} {T : State} {locs : List Loc} {cells slots : Nat} {bytes : ByteArray} {Φ : State → Prop} {pc pc' : Nat} {Ls Ls' : Array Slot} {rest : List Value} {Z : State} {a0 : Array Value} {h h' : Heap} {a b : Addr} {ty : FieldType} {vs : List Value} {v w : Value} {i : Nat}
/-- the array at a, of components ty, holds just vs -/
def AV (Z : State) (h : Heap) (a : Addr) (ty : FieldType) (vs : List Value) : Prop := ∃ cl : Cell, Arr Z h a cl ty ∧ cl.slots.toList = vs ∧ vs.length < 2 ^ 31
theorem AV.lt (F : AV Z h a ty vs) : a < h.size := by obtain ⟨cl, A, -⟩ := F; exact A.lt
theorem AV.ext (F : AV Z h a ty vs) (E : Ext h h') : AV Z h' a ty vs := by obtain ⟨cl, A, r⟩ := F; exact ⟨cl, A.ext E, r⟩
theorem AV.other (F : AV Z h b ty vs) (W : Wr h h' a i v) (q : b ≠ a) : AV Z h' b ty vs := by obtain ⟨cl, A, r⟩ := F; exact ⟨cl, A.other W q, r⟩
theorem AV.keep {ws : List Addr} (F : AV Z h a ty vs) (K : Keep h h' ws) (q : a ∉ ws) : AV Z h' a ty vs := by obtain ⟨cl, A, r⟩ := F; exact ⟨cl, ⟨K.2.1 a cl A.1 q, A.2⟩, r⟩
theorem AV.same (F : AV Z h a ty vs) (W : Wr h h' a i v) : AV Z h' a ty (vs.set i v) := by
  obtain ⟨cl, A, r1, r2⟩ := F
  exact ⟨_, A.same W, by rw [← r1]; simp [Cell.setSlot], by rw [List.length_set]; exact r2⟩
theorem AV.plain (F : AV Z h a ty vs) : ∀ c : Cell, h[a]? = some c → c.vm.isStatics = false := fun c hc => by
  obtain ⟨cl, A, -⟩ := F
  cases hc.symm.trans A.1; exact A.plain
theorem AV.new {k : ClassId} {n : Int32} (A : Arr Z h a (newA k ty n) ty) (q : ¬ n < 0) : AV Z h a ty (List.replicate n.toNatClampNeg (defaultValue ty)) :=
  ⟨_, A, by simp [newA], by rw [List.length_replicate]; exact (back32 q).2⟩
theorem own_inb {cl : Cell} {j : Int32} (r : cl.slots.toList = vs) (h0 : ¬ j < 0) (hl : j.toNatClampNeg < vs.length) : ¬ (j < 0 ∨ cl.slots.size ≤ j.toNatClampNeg) := fun q => q.elim h0 fun y => by
  rw [← r, Array.length_toList] at hl; omega
theorem own_get {cl : Cell} {j : Nat} (r : cl.slots.toList = vs) (hv : vs[j]? = some v) : cl.slots[j]? = some v := by rw [← Array.getElem?_toList, r]; exact hv
theorem own_lt {j : Nat} (hv : vs[j]? = some v) : j < vs.length := (List.getElem?_eq_some_iff.mp hv).1
theorem own_iaload (X : Stand p l e R s m args below meth c T locs cells slots) (hx : p.tables.exec = Jvm.exec) (hby : c.code = bytes) (hZ : Z.Warmed39 s.vm) (eT : T.heap = h) {j : Int32} (F : AV Z h a .int vs) (h0 : ¬ j < 0) (hv : vs[j.toNatClampNeg]? = some v) (hd : decode bytes pc = .ok (.iaload, 1)) (hp : pc + 1 = pc') (k : GoP p e below Φ (T.setTop (mkF m pc' Ls (v :: rest)))) : GoP p e below Φ (T.setTop (mkF m pc Ls (.int j :: .ref a :: rest))) := by
  subst hp
  obtain ⟨cl, A, r1, r2⟩ := F
  exact own_step (fun t u => X.iaload hx (j := j) (v := v) (by rw [eT]; exact A.1) (State.isArrayOf_alike hZ.alike A.2.1) A.2.2 (own_inb r1 h0 (own_lt hv)) (own_get r1 hv) (g := mkF m pc Ls (.int j :: .ref a :: rest)) rfl rfl (hb hby hd) t u) k
theorem own_laload (X : Stand p l e R s m args below meth c T locs cells slots) (hx : p.tables.exec = Jvm.exec) (hby : c.code = bytes) (hZ : Z.Warmed39 s.vm) (eT : T.heap = h) {j : Int32} (F : AV Z h a .long vs) (h0 : ¬ j < 0) (hv : vs[j.toNatClampNeg]? = some v) (hd : decode bytes pc = .ok (.laload, 1)) (hp : pc + 1 = pc') (k : GoP p e below Φ (T.setTop (mkF m pc' Ls (v :: rest)))) : GoP p e below Φ (T.setTop (mkF m pc Ls (.int j :: .ref a :: rest))) := by
  subst hp
  obtain ⟨cl, A, r1, r2⟩ := F
  exact own_step (fun t u => X.laload hx (j := j) (v := v) (by rw [eT]; exact A.1) (State.isArrayOf_alike hZ.alike A.2.1) A.2.2 (own_inb r1 h0 (own_lt hv)) (own_get r1 hv) (g := mkF m pc Ls (.int j :: .ref a :: rest)) rfl rfl (hb hby hd) t u) k
theorem own_aaload (X : Stand p l e R s m args below meth c T locs cells slots) (hx : p.tables.exec = Jvm.exec) (hby : c.code = bytes) (hZ : Z.Warmed39 s.vm) (eT : T.heap = h) {j : Int32} (F : AV Z h a ty vs) (hr : ty.isReference = true) (h0 : ¬ j < 0) (hv : vs[j.toNatClampNeg]? = some v) (hd : decode bytes pc = .ok (.aaload, 1)) (hp : pc + 1 = pc') (k : GoP p e below Φ (T.setTop (mkF m pc' Ls (v :: rest)))) : GoP p e below Φ (T.setTop (mkF m pc Ls (.int j :: .ref a :: rest))) := by
  subst hp
  obtain ⟨cl, A, r1, r2⟩ := F
  exact own_step (fun t u => X.aaload hx (j := j) (v := v) (by rw [eT]; exact A.1) (State.isArrayOf_alike hZ.alike A.2.1) hr A.2.2 (own_inb r1 h0 (own_lt hv)) (own_get r1 hv) (g := mkF m pc Ls (.int j :: .ref a :: rest)) rfl rfl (hb hby hd) t u) k
theorem own_alen (X : Stand p l e R s m args below meth c T locs cells slots) (hx : p.tables.exec = Jvm.exec) (hby : c.code = bytes) (hZ : Z.Warmed39 s.vm) (eT : T.heap = h) {n : Int32} (F : AV Z h a ty vs) (hn : Int32.ofNat vs.length = n) (hd : decode bytes pc = .ok (.arraylength, 1)) (hp : pc + 1 = pc') (k : GoP p e below Φ (T.setTop (mkF m pc' Ls (.int n :: rest)))) : GoP p e below Φ (T.setTop (mkF m pc Ls (.ref a :: rest))) := by
  subst hp
  obtain ⟨cl, A, r1, r2⟩ := F
  have q : cl.slots.size.toInt32 = n := by rw [← hn, ← r1, Array.length_toList]
  rw [← q] at k
  exact own_step (fun t u => X.arraylength hx (by rw [eT]; exact A.1) (State.isArrayOf_alike hZ.alike A.2.1) (g := mkF m pc Ls (.ref a :: rest)) rfl rfl (hb hby hd) t u) k
theorem own_iastore (X : Stand p l e R s m args below meth c T locs cells slots) (hx : p.tables.exec = Jvm.exec) (hby : c.code = bytes) (hZ : Z.Warmed39 s.vm) (eT : T.heap = h) {j : Int32} {x : Int32} (F : AV Z h a .int vs) (h0 : ¬ j < 0) (hl : j.toNatClampNeg < vs.length) (hd : decode bytes pc = .ok (.iastore, 1)) (hp : pc + 1 = pc') (k : ∀ (T' : State) (h' : Heap), Stand p l e R s m args below meth c T' (locs ++ [⟨a, j.toNatClampNeg⟩]) cells slots → T'.heap = h' → Wr h h' a j.toNatClampNeg (.int x) → AV Z h' a .int (vs.set j.toNatClampNeg (.int x)) → GoP p e below Φ (T'.setTop (mkF m pc' Ls rest))) : GoP p e below Φ (T.setTop (mkF m pc Ls ((.int x) :: .int j :: .ref a :: rest))) := by
  subst hp
  obtain ⟨cl, A, r1, r2⟩ := F
  obtain ⟨T', h', X', e', W', st'⟩ := stI X hx hZ eT A (j := j) (x := x) (own_inb r1 h0 hl) (g := mkF m pc Ls ((.int x) :: .int j :: .ref a :: rest)) rfl rfl (hb hby hd)
  exact own_step st' (k T' h' X' e' W' (AV.same ⟨cl, A, r1, r2⟩ W'))
theorem own_lastore (X : Stand p l e R s m args below meth c T locs cells slots) (hx : p.tables.exec = Jvm.exec) (hby : c.code = bytes) (hZ : Z.Warmed39 s.vm) (eT : T.heap = h) {j : Int32} {x : Int64} (F : AV Z h a .long vs) (h0 : ¬ j < 0) (hl : j.toNatClampNeg < vs.length) (hd : decode bytes pc = .ok (.lastore, 1)) (hp : pc + 1 = pc') (k : ∀ (T' : State) (h' : Heap), Stand p l e R s m args below meth c T' (locs ++ [⟨a, j.toNatClampNeg⟩]) cells slots → T'.heap = h' → Wr h h' a j.toNatClampNeg (.long x) → AV Z h' a .long (vs.set j.toNatClampNeg (.long x)) → GoP p e below Φ (T'.setTop (mkF m pc' Ls rest))) : GoP p e below Φ (T.setTop (mkF m pc Ls ((.long x) :: .int j :: .ref a :: rest))) := by
  subst hp
  obtain ⟨cl, A, r1, r2⟩ := F
  obtain ⟨T', h', X', e', W', st'⟩ := stJ X hx hZ eT A (j := j) (x := x) (own_inb r1 h0 hl) (g := mkF m pc Ls ((.long x) :: .int j :: .ref a :: rest)) rfl rfl (hb hby hd)
  exact own_step st' (k T' h' X' e' W' (AV.same ⟨cl, A, r1, r2⟩ W'))
theorem own_bastoreZ (X : Stand p l e R s m args below meth c T locs cells slots) (hx : p.tables.exec = Jvm.exec) (hby : c.code = bytes) (hZ : Z.Warmed39 s.vm) (eT : T.heap = h) {j x : Int32} (F : AV Z h a .boolean vs) (h0 : ¬ j < 0) (hl : j.toNatClampNeg < vs.length) (hd : decode bytes pc = .ok (.bastore, 1)) (hp : pc + 1 = pc') (k : ∀ (T' : State) (h' : Heap), Stand p l e R s m args below meth c T' (locs ++ [⟨a, j.toNatClampNeg⟩]) cells slots → T'.heap = h' → Wr h h' a j.toNatClampNeg (.int (nar .boolean x)) → AV Z h' a .boolean (vs.set j.toNatClampNeg (.int (nar .boolean x))) → GoP p e below Φ (T'.setTop (mkF m pc' Ls rest))) : GoP p e below Φ (T.setTop (mkF m pc Ls (.int x :: .int j :: .ref a :: rest))) := by
  subst hp
  obtain ⟨cl, A, r1, r2⟩ := F
  obtain ⟨T', h', X', e', W', st'⟩ := stZ X hx hZ eT A (j := j) (x := x) (own_inb r1 h0 hl) (g := mkF m pc Ls (.int x :: .int j :: .ref a :: rest)) rfl rfl (hb hby hd)
  exact own_step st' (k T' h' X' e' W' (AV.same ⟨cl, A, r1, r2⟩ W'))
theorem AV.of {k : ClassId} {n : Int32} {d : Value} (F : Arv Z h a k ty n vs d) (q : vs.length = n.toNatClampNeg) : AV Z h a ty vs := by
  obtain ⟨cl, A, -, S, N, H, G⟩ := F
  refine ⟨cl, A, List.ext_getElem? fun i => ?_, by rw [q]; exact (back32 N).2⟩
  rw [Array.getElem?_toList]
  by_cases hi : i < cl.slots.size
  · rw [H i hi, List.getElem?_eq_getElem (by rw [q, ← S]; exact hi), List.getD_eq_getElem?_getD, List.getElem?_eq_getElem (by rw [q, ← S]; exact hi)]; rfl
  · rw [Array.getElem?_eq_none (Nat.le_of_not_lt hi), List.getElem?_eq_none (by rw [q, ← S]; exact Nat.le_of_not_lt hi)]
end OwnKitV
section OwnKitX
variable {p : Program} {l : Launch} {e : Env} {R : Room} {s : State} {vm0 : Vm} {m : MethodId} {args : Array Value} {below : List Frame} {meth : Method} {c : Code} {T : State} {locs : List Loc} {cells slots : Nat} {bytes : ByteArray} {Φ : State → Prop} {pc pc' : Nat} {Ls Ls' : Array Slot} {rest : List Value} {Z : State} {a0 : Array Value} {h : Heap} {k0 : Nat}
def ConX (l : Launch) (Z : State) (y : MethodName) (bytes : ByteArray) (maxL : Nat) (ret : Option FieldType) (ws : List Jvm.Cond) (rm : Room) (as' : Array Value) (h0 : Heap) (Pv : Vm → Prop) (Q : Option Value → Heap → Vm → List Loc → Prop) : Prop :=
  MetFree l y (head1 (Jvm.Cond.code y bytes maxL ret :: ws) rm) (fun a U => a = as' ∧ Z.Warmed39 U.vm ∧ U.heap = h0 ∧ Pv U.vm) (fun _ _ _ _ _ => True) (fun _ U o U' => ∃ v L, o = .returned v ∧ Q v U'.heap U'.vm L ∧ ReturnedEndW U o U' L rm.cells rm.slots)
def FinX (p : Program) (l : Launch) (e : Env) (R : Room) (s : State) (m : MethodId) (args : Array Value) (below : List Frame) (meth : Method) (c : Code) (Q : Option Value → Heap → Vm → List Loc → Prop) (Φ : State → Prop) : Prop :=
  ∀ (vm0 : Vm) (k0 : Nat), s.Since vm0 k0 → Fin p l e R (s.setVm vm0) m args below meth c (fun v T L => Q v T.heap T.vm L ∧ k0 ≤ T.heap.size) Φ
theorem ConX.of {y : MethodName} {maxL : Nat} {ret : Option FieldType} {ws : List Jvm.Cond} {rm : Room} {as' : Array Value} {h0 : Heap} {Pv : Vm → Prop} {Q : Option Value → Heap → Vm → List Loc → Prop} (hpn : plainFor y = true)
    (body : ∀ (p : Program) (e : Env) (s : State) (m : MethodId) (below : List Frame) (meth : Method) (c : Code) (T : State) (vm0 : Vm) (k0 : Nat), Stand p l e rm (s.setVm vm0) m as' below meth c T [] 0 0 → p.tables.exec = Jvm.exec → c.code = bytes → c.maxLocals = maxL → vm0.findClass y.cls = some m.cls → meth.name = y.name → meth.sig.returnType = ret → T.heap = h0 → Z.Warmed39 vm0 → s.heap = h0 → s.Since vm0 k0 → k0 ≤ h0.size → Pv vm0 →
      ∀ Φ : State → Prop, FinX p l e rm s m as' below meth c Q Φ → GoP p e below Φ (T.setTop (entryFrame m as' maxL))) : ConX l Z y bytes maxL ret ws rm as' h0 Pv Q := by
  refine MetFree.of_bodySF hpn hisR ?_
  intro p e s m args below meth c s₁ Bd hml0 hP hK
  obtain ⟨rfl, hZ, hh, hv⟩ := hP
  have e0 : s₁.heap = h0 := by rw [← hh, Bd.state]; rfl
  have hlk : meth.locks = false := Bd.notSynchronized
  obtain ⟨t, h1, o, h2⟩ := body p e s m below meth c s₁ s.vm h0.size (Stand.of_body Bd) Bd.exec Bd.bytes hml0 (findClass_of_methodNamed Bd.named) (name_of_methodNamed Bd.named Bd.method).1 Bd.returns e0 hZ hh ((State.WarmedH.refl s).since _) (Nat.le_refl _) hv
    (fun t => ∃ o, t.status = .running ∧ Ended t below o ∧ ∃ v L, o = .returned v ∧ Q v t.heap t.vm L ∧ ReturnedEndW s o t L rm.cells rm.slots)
    (fun vm0 k0 hS T locs cells slots v X hv hQ hc hs => by
      obtain ⟨fs, hr, hrun, hended, hW, hsame⟩ := X.leave (v := v) hv hlk
      obtain ⟨r1, r2, r3⟩ := hS.ended hW hQ.2 hsame
      exact ⟨fs, hr, _, hrun, hended, v, locs, rfl, hQ.1, ⟨_, rfl⟩, r1, r2, r3.mono hc hs⟩)
  exact ⟨t, o, h1, h2⟩
theorem own_backX {y : MethodName} {maxL : Nat} {ret : Option FieldType} {rm : Room} {len W : Nat} {as' : Array Value} {Pv : Vm → Prop} {Q : Option Value → Heap → Vm → List Loc → Prop}
    (hM : ConX l Z y bytes maxL ret [] rm as' h Pv Q) (hZ : Z.Warmed39 s.vm) (wc : (Jvm.Cond.code y bytes maxL ret).before a0 Z = true) (wz : (Jvm.Cond.initialized y.cls).before a0 Z = true) (hf : rm.frames + 1 ≤ R.frames) (hl : W + (maxL + 11) + rm.locals ≤ R.locals) :
    BackS l R p e below s args y len W (fun A a => a = as' ∧ A.U.heap = h ∧ A.cells + rm.cells ≤ R.cells ∧ A.slots + rm.slots ≤ R.slots ∧ Pv A.U.vm)
      (fun A _ v B => ∃ L, Q v B.U.heap B.U.vm L ∧ B.locs = A.locs ++ L ∧ B.cells = A.cells + rm.cells ∧ B.slots = A.slots + rm.slots) :=
  BackS.of_freeW (bytes := bytes) (maxL := maxL) (ret := ret) (E := fun _ _ o t L k n => k = rm.cells ∧ n = rm.slots ∧ ∃ v, o = .returned v ∧ Q v t.heap t.vm L) hM hf hl
    (fun m meth c A a Y hp => have hU : Z.Warmed39 A.U.vm := wtrans hZ Y.warmed
      ⟨by show (Jvm.Cond.and _ .tt).before a A.U = true; rw [Cond.before_and, mv hU wc]; rfl, mv hU wc, mv hU wz, hp.2.2.1, hp.2.2.2.1⟩)
    (fun m meth c A a g mk Y hp => ⟨hp.1, wtrans hZ Y.warmed, hp.2.1, hp.2.2.2.2⟩) (fun _ _ _ _ _ _ _ _ _ => trivial)
    (fun _ _ _ _ ⟨v, L, h1, h2, h3⟩ => ⟨L, _, _, h3, rfl, rfl, v, h1, h2⟩)
    (fun m meth c A a g mk v t L k n Y hp _ _ ⟨e1, e2, v', e3, e4⟩ => by cases e3; subst e1 e2; exact ⟨L, e4, rfl, rfl, rfl⟩)
/-- a word on the tables that stays where they warm -/
def Stays (Pv : Vm → Prop) : Prop := ∀ (s : State) (vm0 vm1 : Vm), (s.setVm vm0).WarmedH vm1 → Pv vm0 → Pv vm1
theorem own_callIX (X : Stand p l e R (s.setVm vm0) m args below meth c T locs cells slots) (hx : p.tables.exec = Jvm.exec) (hby : c.code = bytes) (hZ : Z.Warmed39 vm0) (hml : Ls.size = c.maxLocals) {own : String} {index : Nat} {y : MethodName} (hown : vm0.findClass own = some m.cls) {a : Addr} (hn : y.name = "<init>") (w1 : (Jvm.Cond.methodLink own index y).before a0 Z = true) (w2 : (Jvm.Cond.instanceMethod y).before a0 Z = true) (w3 : (Jvm.Cond.initialized y.cls).before a0 Z = true) {bytes' : ByteArray} {maxL : Nat} (w4 : (Jvm.Cond.code y bytes' maxL none).before a0 Z = true) (hy : y.cls ≠ "java/lang/invoke/MethodHandle" ∧ y.cls ≠ "java/lang/invoke/VarHandle") {rm : Room} {Pv : Vm → Prop} {Q : Option Value → Heap → Vm → List Loc → Prop} (eT : T.heap = h) (W : Nat) (hf : rm.frames + 1 ≤ R.frames) (hl : W + (maxL + 11) + rm.locals ≤ R.locals) (hc : cells + rm.cells ≤ R.cells) (hs : slots + rm.slots ≤ R.slots) {argsL rest : List Value} {st : List Value} (hlen : ∀ sig, parseMethodDescriptor y.desc = some sig → argsL.length = sig.parameters.length) (hst : st = argsL.reverse ++ .ref a :: rest) (hW : (rest.map fun v => v.category).sum ≤ W) (hM : ConX l Z y bytes' maxL none [] rm (.ref a :: argsL).toArray h Pv Q) (hd : decode bytes pc = .ok (.invokespecial index, 3)) (hp : pc + 3 = pc') (hS : s.Since vm0 k0) (hk : k0 ≤ h.size) (hPs : Stays Pv) (hP : Pv vm0) (k : ∀ (v : Option Value) (T' : State) (L : List Loc), Stand p l e R (s.setVm T'.vm) m args below meth c T' (locs ++ L) (cells + rm.cells) (slots + rm.slots) → s.Since T'.vm T'.heap.size → T'.heap.size ≤ T'.heap.size → Z.Warmed39 T'.vm → T'.vm.findClass own = some m.cls → h.size ≤ T'.heap.size → Q v T'.heap T'.vm L → GoP p e below Φ (T'.setTop (mkF m pc' Ls (v.toList ++ rest)))) : GoP p e below Φ (T.setTop (mkF m pc Ls st)) := by
  obtain ⟨v, _, ⟨T', L', k', n'⟩, -, X', hS2, hg2, ⟨L, hQ, l1, y1, z1⟩, st'⟩ := X.specialBackS hx (y := y) hn hown (mvT (s := s.setVm vm0) hZ w1) (mvT (s := s.setVm vm0) hZ w2) (mvT (s := s.setVm vm0) hZ w4) hy (own_backX (W := W) hM hZ w4 w3 hf hl) (g := mkF m pc Ls st) rfl hml (Steps.refl _) (a := a) (argsL := argsL) (rest := rest) hlen hst (by show 2 * 0 + _ ≤ _; omega) (hb hby hd) (fun vm1 hv1 => ⟨rfl, eT, hc, hs, hPs s vm0 vm1 hv1 hP⟩)
  dsimp only [Pt.U, Pt.locs, Pt.cells, Pt.slots] at X' l1 y1 z1 st' hQ hS2 hg2
  subst l1 y1 z1 hp
  obtain ⟨X'', hS3, hZ3, hown3⟩ := rebS (n1 := T.heap.size) hS (by rw [eT]; exact hk) X' hS2 hg2 hZ hown
  exact own_trans st' (k _ _ _ X'' hS3 (Nat.le_refl _) hZ3 hown3 (by rw [← eT]; exact hg2) hQ)
/-- the String constant at own's entry i is booked at a, with these bytes -/
def LitL (Z : State) (own : String) (i : Nat) (bs : List Value) (h : Heap) (vm : Vm) : Prop := ∃ a b : Addr, Lit (Z.setVm vm) own i a ∧ Exa Z h a "java/lang/String" ∧ Fld Z h a "java/lang/String" "coder" "B" (.int 0) ∧ Fld Z h a "java/lang/String" "value" "[B" (.ref b) ∧ AV Z h b .byte bs
/-- .. or this case has loaded none of the texts but Ts yet -/
def LitS (Z : State) (own : String) (i : Nat) (bs : List Value) (Ts : List String) (h : Heap) (vm : Vm) : Prop := IB Z vm Ts ∨ LitL Z own i bs h vm
theorem LitL.ext {own : String} {i : Nat} {bs : List Value} {vm : Vm} {h' : Heap} (F : LitL Z own i bs h vm) (E : Ext h h') : LitL Z own i bs h' vm := by
  obtain ⟨a, b, L, r1, r2, r3, r4⟩ := F; exact ⟨a, b, L, r1.ext E, r2.ext E, r3.ext E, r4.ext E⟩
theorem own_ne_av {a b : Addr} {C : String} {k : Nat} {ty : FieldType} {vs : List Value} (E : Exa Z h a C) (wi : (Jvm.Cond.instantiable C k).before a0 Z = true) (F : AV Z h b ty vs) : a ≠ b := by
  obtain ⟨cl, A, -⟩ := F; exact ne_arr E wi A
end OwnKitX
section OwnKitR
variable {p : Program} {l : Launch} {e : Env} {R : Room} {s : State} {m : MethodId} {args : Array Value} {below : List Frame} {meth : Method} {c : Code} {T : State} {locs : List Loc} {cells slots : Nat} {bytes : ByteArray} {Φ : State → Prop} {pc pc' : Nat} {Ls Ls' : Array Slot} {rest : List Value} {Z : State} {a0 : Array Value} {h h' : Heap} {a b y : Addr} {ty : FieldType} {vs vd : List Value} {v w : Value} {i : Nat} {C : String}
/-- the array at a is one of components of the class C -/
def CM (Z : State) (h : Heap) (a : Addr) (C : String) : Prop := ∃ cl : Cell, h[a]? = some cl ∧ (Ovr Z cl.cls C ∨ ∃ ty, OvrA Z cl.cls ty C)
theorem CM.lt (F : CM Z h a C) : a < h.size := by obtain ⟨cl, q, -⟩ := F; exact (Array.getElem?_eq_some_iff.mp q).1
theorem CM.ext (F : CM Z h a C) (E : Ext h h') : CM Z h' a C := by obtain ⟨cl, q, O⟩ := F; exact ⟨cl, E.2 _ _ q, O⟩
theorem CM.wr (F : CM Z h a C) (W : Wr h h' b i v) : CM Z h' a C := by
  obtain ⟨cl, q, O⟩ := F
  obtain ⟨c', e1, e2, -⟩ := wr_at W q
  exact ⟨c', e1, by rw [e2]; exact O⟩
theorem CM.keep {ws : List Addr} (F : CM Z h a C) (K : Keep h h' ws) : CM Z h' a C := by
  obtain ⟨cl, q, O⟩ := F
  obtain ⟨c', e1, e2, -⟩ := K.2.2 _ _ q
  exact ⟨c', e1, by rw [e2]; exact O⟩
theorem own_sto (F : AV Z h a ty vs) (M : CM Z h a C) (I : Ins Z h y C true) : Sto Z h a (.ref y) := by
  obtain ⟨cl, A, -⟩ := F
  obtain ⟨cl', q, O⟩ := M
  cases A.1.symm.trans q
  rcases O with O | ⟨ty', O⟩
  · exact Sto.of A O I
  · exact Sto.ofVA A rfl O I
theorem AV.arv (F : AV Z h a ty vs) (d : Value) (q : vs.all (fits ty) = true) : ∃ k, Arv Z h a k ty (Int32.ofNat vs.length) vs d := by
  obtain ⟨cl, A, r1, r2⟩ := F
  have S : cl.slots.size = vs.length := by rw [← r1, Array.length_toList]
  have N : (Int32.ofNat vs.length).toInt = vs.length := Int32.toInt_ofNat_small r2
  have Nn : (Int32.ofNat vs.length).toNatClampNeg = vs.length := by simp only [Int32.toNatClampNeg]; omega
  have z0 : (0 : Int32).toInt = 0 := by decide
  refine ⟨cl.cls, cl, A, rfl, by rw [Nn, S], fun u => by rw [Int32.lt_iff_toInt_lt, N, z0] at u; omega, fun i hi => ?_, fun i hi => ?_⟩
  · rw [← Array.getElem?_toList, r1, List.getD_eq_getElem?_getD, List.getElem?_eq_getElem (by rw [← S]; exact hi)]; rfl
  · rw [List.getD_eq_getElem?_getD, List.getElem?_eq_getElem (by rw [← S]; exact hi)]
    exact List.all_eq_true.mp q _ (List.getElem_mem _)
theorem AV.len (F : AV Z h a ty vs) : (Int32.ofNat vs.length).toNatClampNeg = vs.length := by
  obtain ⟨cl, A, r1, r2⟩ := F
  have N : (Int32.ofNat vs.length).toInt = vs.length := Int32.toInt_ofNat_small r2
  simp only [Int32.toNatClampNeg]; omega
theorem own_aastore (X : Stand p l e R s m args below meth c T locs cells slots) (hx : p.tables.exec = Jvm.exec) (hby : c.code = bytes) (hZ : Z.Warmed39 s.vm) (eT : T.heap = h) {j : Int32} (F : AV Z h a ty vs) (hr : ty.isReference = true) (hS : Sto Z h a v) (h0 : ¬ j < 0) (hl : j.toNatClampNeg < vs.length) (hd : decode bytes pc = .ok (.aastore, 1)) (hp : pc + 1 = pc') (k : ∀ (T' : State) (h' : Heap), Stand p l e R s m args below meth c T' (locs ++ [⟨a, j.toNatClampNeg⟩]) cells slots → T'.heap = h' → Wr h h' a j.toNatClampNeg v → AV Z h' a ty (vs.set j.toNatClampNeg v) → GoP p e below Φ (T'.setTop (mkF m pc' Ls rest))) : GoP p e below Φ (T.setTop (mkF m pc Ls (v :: .int j :: .ref a :: rest))) := by
  subst hp
  obtain ⟨cl, A, r1, r2⟩ := F
  obtain ⟨T', h', X', e', W', st'⟩ := stR X hx hZ eT A (j := j) (v := v) (own_inb r1 h0 hl) hr hS (g := mkF m pc Ls (v :: .int j :: .ref a :: rest)) rfl rfl (hb hby hd)
  exact own_step st' (k T' h' X' e' W' (AV.same ⟨cl, A, r1, r2⟩ W'))
theorem own_newI (X : Stand p l e R s m args below meth c T locs cells slots) (hx : p.tables.exec = Jvm.exec) (hby : c.code = bytes) (hZ : Z.Warmed39 s.vm) (w1 : (Jvm.Cond.arrayClass .int).before a0 Z = true) (eT : T.heap = h) {n : Int32} (hn : ¬ n < 0) (cap : Nat) (hcap : n.toNatClampNeg ≤ cap) (hbb : cap * 8 ≤ 536870912) (hc : cells + 1 ≤ R.cells) (hl : slots + cap ≤ R.slots) (hd : decode bytes pc = .ok (.newarray .int, 2)) (hp : pc + 2 = pc')
    (k : ∀ (T' : State) (h' : Heap) (b : Addr), Stand p l e R s m args below meth c T' locs (cells + 1) (slots + cap) → T'.heap = h' → Ext h h' → b = h.size → AV Z h' b .int (List.replicate n.toNatClampNeg (.int 0)) → IA Z h' b n → Exa Z h' b "[I" → GoP p e below Φ (T'.setTop (mkF m pc' Ls (.ref b :: rest)))) : GoP p e below Φ (T.setTop (mkF m pc Ls (.int n :: rest))) := by
  subst hp
  obtain ⟨T', h', cA, X', e', E', A', Ex', st'⟩ := newPE X hx hZ (aty := .int) w1 eT (g := mkF m pc Ls (.int n :: rest)) rfl (hb hby hd) rfl hn hcap hbb hc hl rfl
  exact own_step st' (k T' h' _ X' e' E' rfl (AV.new A' hn) (IA.new A' hn) Ex')
theorem own_newR (X : Stand p l e R s m args below meth c T locs cells slots) (hx : p.tables.exec = Jvm.exec) (hby : c.code = bytes) (hZ : Z.Warmed39 s.vm) {own : String} {index : Nat} (hown : s.vm.findClass own = some m.cls) (w1 : (Jvm.Cond.classLink own index C).before a0 Z = true) (w2 : (Jvm.Cond.arrayOver (.object C)).before a0 Z = true) (eT : T.heap = h) {n : Int32} (hn : ¬ n < 0) (cap : Nat) (hcap : n.toNatClampNeg ≤ cap) (hbb : cap * 8 ≤ 536870912) (hc : cells + 1 ≤ R.cells) (hl : slots + cap ≤ R.slots) (hd : decode bytes pc = .ok (.anewarray index, 3)) (hp : pc + 3 = pc')
    (k : ∀ (T' : State) (h' : Heap) (b : Addr), Stand p l e R s m args below meth c T' locs (cells + 1) (slots + cap) → T'.heap = h' → Ext h h' → b = h.size → AV Z h' b (.object C) (List.replicate n.toNatClampNeg .null) → CM Z h' b C → GoP p e below Φ (T'.setTop (mkF m pc' Ls (.ref b :: rest)))) : GoP p e below Φ (T.setTop (mkF m pc Ls (.int n :: rest))) := by
  subst hp
  obtain ⟨T', h', cA, X', e', E', A', O', st'⟩ := newR X hx hZ hown w1 w2 eT (g := mkF m pc Ls (.int n :: rest)) rfl (hb hby hd) rfl hn hcap hbb hc hl
  exact own_step st' (k T' h' _ X' e' E' rfl (AV.new A' hn) ⟨_, A'.1, Or.inl O'⟩)
theorem own_cloneI (X : Stand p l e R s m args below meth c T locs cells slots) (hx : p.tables.exec = Jvm.exec) (hby : c.code = bytes) (hZ : Z.Warmed39 s.vm) (hml : Ls.size = c.maxLocals) {own : String} {index : Nat} (hown : s.vm.findClass own = some m.cls) (w1 : (Jvm.Cond.methodLink own index ⟨"[I", "clone", "()Ljava/lang/Object;"⟩).before a0 Z = true) (w2 : (Jvm.Cond.sameMethod "[I" "java/lang/Object" "clone" "()Ljava/lang/Object;").before a0 Z = true) (w3 : (Jvm.Cond.native ⟨"java/lang/Object", "clone", "()Ljava/lang/Object;"⟩).before a0 Z = true) (w4 : (Jvm.Cond.instanceMethod ⟨"java/lang/Object", "clone", "()Ljava/lang/Object;"⟩).before a0 Z = true) (w5 : (Jvm.Cond.selects "[I" ⟨"[I", "clone", "()Ljava/lang/Object;"⟩ ⟨"java/lang/Object", "clone", "()Ljava/lang/Object;"⟩).before a0 Z = true) (w6 : (Jvm.Cond.castable "[I" "java/lang/Cloneable").before a0 Z = true) (eT : T.heap = h) (F : AV Z h a .int vs) (q : vs.all (fits .int) = true) (E : Exa Z h a "[I") (hf : 1 ≤ R.frames) (W : Nat) (hW : (rest.map fun v => v.category).sum ≤ W) (hlo : W + 14 ≤ R.locals) (cap : Nat) (hcap : vs.length ≤ cap) (hc : cells + 1 ≤ R.cells) (hl : slots + cap ≤ R.slots) (hd : decode bytes pc = .ok (.invokevirtual index, 3)) (hp : pc + 3 = pc')
    (k : ∀ (T' : State) (h' : Heap) (b : Addr), Stand p l e R s m args below meth c T' locs (cells + 1) (slots + cap) → T'.heap = h' → Ext h h' → b = h.size → AV Z h' b .int vs → Exa Z h' b "[I" → GoP p e below Φ (T'.setTop (mkF m pc' Ls (.ref b :: rest)))) : GoP p e below Φ (T.setTop (mkF m pc Ls (.ref a :: rest))) := by
  subst hp
  obtain ⟨k0, Av⟩ := F.arv (.int 0) q
  obtain ⟨T', h', X', e', E', F', Ex', st'⟩ := cloneH X hx hZ hown w1 w2 w3 w4 w5 w6 eT Av.arh E (g := mkF m pc Ls (.ref a :: rest)) rfl hml rfl (hb hby hd) hf (W := W) (by show 2 * 0 + _ ≤ _; omega) hlo (by rw [F.len]; exact hcap) hc hl
  exact own_step st' (k T' h' _ X' e' E' rfl (AV.of (vs := vs) F' F.len.symm) Ex')
theorem own_ne_av2 {ty' : FieldType} (F : AV Z h a ty vs) (G : AV Z h b ty' vd) (q : ty ≠ ty') : a ≠ b := fun u => by
  subst u
  obtain ⟨c1, A, -⟩ := F
  obtain ⟨c2, B, -⟩ := G
  cases A.1.symm.trans B.1
  obtain ⟨-, k1, j1, m1, j2⟩ := A.2.1
  obtain ⟨-, k2, i1, m2, i2⟩ := B.2.1
  cases j1.symm.trans i1
  rw [j2] at i2; cases i2; exact q rfl
end OwnKitR
section OwnKitS
variable {p : Program} {l : Launch} {e : Env} {R : Room} {s : State} {vm0 : Vm} {m : MethodId} {args : Array Value} {below : List Frame} {meth : Method} {c : Code} {T : State} {locs : List Loc} {cells slots : Nat} {bytes : ByteArray} {Φ : State → Prop} {pc pc' : Nat} {Ls Ls' : Array Slot} {rest : List Value} {Z : State} {a0 : Array Value} {h : Heap} {k0 : Nat}
theorem own_noface {y z : MethodName} {C : String} (hc : z.cls = y.cls) (w : (Jvm.Cond.selects C z z).before args s = true) : NotFace s y := fun r0 h0 => by
  obtain ⟨c2, r2, m2, -, -, q3, -, kP, hkP, hkPi⟩ := Cond.selects_spec w
  have e1 := findClass_of_methodNamed h0
  have e2 := findClass_of_methodNamed q3
  rw [hc, e1] at e2
  rw [Option.some.inj e2]
  exact ⟨kP, hkP, hkPi⟩
theorem own_ibmono {Ts Us : List String} (I : IB Z vm0 Ts) (q : ∀ t ∈ Ts, t ∈ Us) : IB Z vm0 Us := by
  obtain ⟨more, e1, e2⟩ := I
  exact ⟨more, e1, fun x hx => by obtain ⟨t, ht, hd⟩ := e2 x hx; exact ⟨t, q t ht, hd⟩⟩
/-- "" is loaded, and nothing else -/
def LitB (Z : State) (h : Heap) (vm : Vm) : Prop := IB Z vm [""] ∧ LitL Z "java/lang/String" 7 [] h vm
/-- nothing is loaded, or "" alone -/
def LitT (Z : State) (h : Heap) (vm : Vm) : Prop := IB Z vm [] ∨ LitB Z h vm
theorem LitL.keep {own : String} {i : Nat} {bs : List Value} {vm : Vm} {h' : Heap} {ws : List Addr} (F : LitL Z own i bs h vm) (K : Keep h h' ws) (q : ∀ a ∈ ws, h.size ≤ a) : LitL Z own i bs h' vm := by
  obtain ⟨a, b, L, r1, r2, r3, r4⟩ := F
  have n1 : a ∉ ws := fun u => Nat.not_lt.mpr (q a u) r1.lt
  have n2 : b ∉ ws := fun u => Nat.not_lt.mpr (q b u) r4.lt
  exact ⟨a, b, L, r1.keep K, r2.keep K n1, r3.keep K n1, r4.keep K n2⟩
theorem LitT.keep {vm : Vm} {h' : Heap} {ws : List Addr} (F : LitT Z h vm) (K : Keep h h' ws) (q : ∀ a ∈ ws, h.size ≤ a) : LitT Z h' vm := F.imp id fun u => ⟨u.1, u.2.keep K q⟩
theorem LitT.ib {vm : Vm} (F : LitT Z h vm) : IB Z vm [""] := by
  rcases F with q | q
  · exact own_ibmono q (by simp)
  · exact q.1
end OwnKitS
section OwnKitM
variable {p : Program} {l : Launch} {e : Env} {R : Room} {s : State} {m : MethodId} {args : Array Value} {below : List Frame} {meth : Method} {c : Code} {T : State} {locs : List Loc} {cells slots : Nat} {bytes : ByteArray} {Φ : State → Prop} {pc pc' : Nat} {Ls Ls' : Array Slot} {rest : List Value} {Z : State} {a0 : Array Value} {h : Heap} {a b : Addr} {ty : FieldType} {vs : List Value} {v : Value} {C : String}
theorem own_selfsel {y z : MethodName} (w6 : (Jvm.Cond.instanceMethod y).before a0 Z = true) (w2 : (Jvm.Cond.privateMethod y).before a0 Z = true) (hc : z.cls = y.cls) (w : (Jvm.Cond.selects C z z).before a0 Z = true) (hy : y.cls ≠ "java/lang/invoke/MethodHandle" ∧ y.cls ≠ "java/lang/invoke/VarHandle") : (Jvm.Cond.selects y.cls y y).before a0 Z = true := by
  obtain ⟨mk, methM, hnamed, hmethM, -, -⟩ := Cond.instanceMethod_spec w6
  obtain ⟨k, hk, hni⟩ := own_noface hc w mk hnamed
  exact selects_self_of_private (findClass_of_methodNamed hnamed) hk hni (Cond.privateMethod_at w2) w6 hy
theorem own_initRef (X : Stand p l e R s m args below meth c T locs cells slots) (hx : p.tables.exec = Jvm.exec) (hZ : Z.Warmed39 s.vm) {own : String} {index : Nat} {y : MethodName} (hy1 : y.name = "<init>") (hown : s.vm.findClass own = some m.cls) (w1 : (Jvm.Cond.methodRef own index y).before a0 Z = true) (w2 : (Jvm.Cond.instanceMethod y).before a0 Z = true) {bytes' : ByteArray} {maxL : Nat} (w4 : (Jvm.Cond.code y bytes' maxL none).before a0 Z = true) (hy : y.cls ≠ "java/lang/invoke/MethodHandle" ∧ y.cls ≠ "java/lang/invoke/VarHandle") {f : JFrame} (hf : f.method = m) {a : Addr} {argsL rest : List Value} (hlen : ∀ sig, parseMethodDescriptor y.desc = some sig → argsL.length = sig.parameters.length) (hst : f.stack = argsL.reverse ++ .ref a :: rest) (hd : decode c.code f.pc = .ok (.invokespecial index, 3)) :
    ∃ tm, T.methodNamed? y = some tm ∧ ∀ target, (∀ acts, Steps p.tables e below (doInvoke e (T.setTop { f with stack := rest }) acts tm (.ref a :: argsL).toArray).1 target) → Steps p.tables e below (T.setTop f) target := by
  subst hf
  have hZT : Z.Warmed39 T.vm := wtrans hZ X.warmed
  obtain ⟨obj, methO, hnO, hmO, hstO, habO⟩ := Cond.instanceMethod_spec w2
  obtain ⟨methO', cO, hmO', hcO, hbO, hlO, -, hlockO, -, hsigO⟩ := Cond.code_spec hnO w4
  cases hmO.symm.trans hmO'
  obtain ⟨kO, hkO, hnameO⟩ := className_of_methodNamed hnO
  obtain ⟨hnameMO, hdescO⟩ := name_of_methodNamed hnO hmO
  have hR := Cond.methodRef_warmed39 hZT hnO hy w1
  have hcur : (Z.setVm T.vm).vm.findClass own = some f.method.cls := by
    show T.vm.findClass own = _
    rw [X.warmed.alike.findClass]; exact hown
  obtain ⟨m', c', hf', hready, hfind, hnr⟩ := Cond.methodRef_named (s := Z.setVm T.vm) e hcur hR
  have hnT : (Z.setVm T.vm).methodNamed? y = some obj := by rw [State.methodNamed?_setVm hZT.alike]; exact hnO
  have hfT := State.methodFound?_of_named hnT hy
  cases hfT.symm.trans hf'
  have hc' : c' = obj.cls := Option.some.inj (hfind.symm.trans (findClass_of_methodNamed hnT))
  subst hc'
  obtain ⟨kO₂, hkO₂, heO₂⟩ := hZT.alike.2.2 _ _ hkO
  have hmO₂ : T.vm.method? obj = some methO := by rw [hZT.alike.method?]; exact hmO
  have hfound : lookupSpecial T.vm obj.cls "<init>" methO.desc = .method obj := by
    rw [hZT.alike.lookupSpecial, hdescO, ← hy1]; exact lookupSpecial_of_named hnO hmO hstO
  refine ⟨obj, hnT, fun target hrest => ?_⟩
  jvm_step X.here [hx, hd, invokespecial.wp_init (e := e) (s := T) (k := kO₂) (meth := methO) (m := obj) (a := a) (args := argsL) (rest := rest) (f := f) X.here.top hnr hready hkO₂ hmO₂ (by rw [hnameMO]; exact hy1) hstO habO hfound (hlen _ hsigO) hst]
  exact hrest
theorem own_callIR (X : Stand p l e R s m args below meth c T locs cells slots) (hx : p.tables.exec = Jvm.exec) (hby : c.code = bytes) (hZ : Z.Warmed39 s.vm) (hml : Ls.size = c.maxLocals) {own : String} {index : Nat} {y : MethodName} (hown : s.vm.findClass own = some m.cls) {a : Addr} (hn : y.name = "<init>") (w1 : (Jvm.Cond.methodRef own index y).before a0 Z = true) (w2 : (Jvm.Cond.instanceMethod y).before a0 Z = true) (w3 : (Jvm.Cond.initialized y.cls).before a0 Z = true) {bytes' : ByteArray} {maxL : Nat} (w4 : (Jvm.Cond.code y bytes' maxL none).before a0 Z = true) (hy : y.cls ≠ "java/lang/invoke/MethodHandle" ∧ y.cls ≠ "java/lang/invoke/VarHandle") {rm : Room} {Q : Option Value → Heap → List Loc → Prop} (eT : T.heap = h) (W : Nat) (hf : rm.frames + 1 ≤ R.frames) (hl : W + (maxL + 11) + rm.locals ≤ R.locals) (hc : cells + rm.cells ≤ R.cells) (hs : slots + rm.slots ≤ R.slots) {argsL rest : List Value} {st : List Value} (hlen : ∀ sig, parseMethodDescriptor y.desc = some sig → argsL.length = sig.parameters.length) (hst : st = argsL.reverse ++ .ref a :: rest) (hW : (rest.map fun v => v.category).sum ≤ W) (hM : Con l Z y bytes' maxL none [] rm (.ref a :: argsL).toArray h Q) (hd : decode bytes pc = .ok (.invokespecial index, 3)) (hp : pc + 3 = pc') (k : ∀ (v : Option Value) (T' : State) (L : List Loc), Stand p l e R s m args below meth c T' (locs ++ L) (cells + rm.cells) (slots + rm.slots) → Q v T'.heap L → GoP p e below Φ (T'.setTop (mkF m pc' Ls (v.toList ++ rest)))) : GoP p e below Φ (T.setTop (mkF m pc Ls st)) := by
  obtain ⟨tm, hnm', st1⟩ := own_initRef X hx hZ hn hown w1 w2 w4 hy (f := mkF m pc Ls st) rfl hlen hst (hb hby hd)
  obtain ⟨v, ⟨T', L', k', n'⟩, X', ⟨L, hQ, l1, y1, z1⟩, st'⟩ := (backOf (W := W) hM hZ w4 w3 hf hl) m meth c ⟨T, locs, cells, slots⟩ { mkF m pc Ls st with stack := rest } (.invokespecial index) tm (.ref a :: argsL).toArray X rfl hml (hb hby hd) (by show 2 * 0 + (rest.map fun v => v.category).sum ≤ W; omega) hnm' ⟨rfl, eT, hc, hs⟩
  dsimp only [Pt.U, Pt.locs, Pt.cells, Pt.slots] at X' l1 y1 z1 st' hQ
  subst l1 y1 z1 hp
  exact own_step (fun t q => st1 t (fun acts => by rw [doInvoke_state]; exact Steps.trans st' q)) (k _ _ _ X' hQ)
theorem own_baloadZ (X : Stand p l e R s m args below meth c T locs cells slots) (hx : p.tables.exec = Jvm.exec) (hby : c.code = bytes) (hZ : Z.Warmed39 s.vm) (eT : T.heap = h) {j : Int32} (F : AV Z h a .boolean vs) (h0 : ¬ j < 0) (hv : vs[j.toNatClampNeg]? = some v) (hd : decode bytes pc = .ok (.baload, 1)) (hp : pc + 1 = pc') (k : GoP p e below Φ (T.setTop (mkF m pc' Ls (v :: rest)))) : GoP p e below Φ (T.setTop (mkF m pc Ls (.int j :: .ref a :: rest))) := by
  subst hp
  obtain ⟨cl, A, r1, r2⟩ := F
  exact own_step (fun t u => X.baloadBooleans hx (j := j) (v := v) (by rw [eT]; exact A.1) (State.isArrayOf_alike hZ.alike A.2.1) A.2.2 (own_inb r1 h0 (own_lt hv)) (own_get r1 hv) (g := mkF m pc Ls (.int j :: .ref a :: rest)) rfl rfl (hb hby hd) t u) k
theorem own_newRE (X : Stand p l e R s m args below meth c T locs cells slots) (hx : p.tables.exec = Jvm.exec) (hby : c.code = bytes) (hZ : Z.Warmed39 s.vm) {own : String} {index : Nat} (hown : s.vm.findClass own = some m.cls) (hC : (FieldType.array ty).toString = C) (w1 : (Jvm.Cond.classLink own index C).before a0 Z = true) (w2 : (Jvm.Cond.arrayOver (.array ty)).before a0 Z = true) (eT : T.heap = h) {ad : String} (had : "[" ++ C = ad) {n : Int32} (hn : ¬ n < 0) (cap : Nat) (hcap : n.toNatClampNeg ≤ cap) (hbb : cap * 8 ≤ 536870912) (hc : cells + 1 ≤ R.cells) (hl : slots + cap ≤ R.slots) (hd : decode bytes pc = .ok (.anewarray index, 3)) (hp : pc + 3 = pc')
    (k : ∀ (T' : State) (h' : Heap) (b : Addr), Stand p l e R s m args below meth c T' locs (cells + 1) (slots + cap) → T'.heap = h' → Ext h h' → b = h.size → AV Z h' b (.array ty) (List.replicate n.toNatClampNeg .null) → CM Z h' b C → Exa Z h' b ad → GoP p e below Φ (T'.setTop (mkF m pc' Ls (.ref b :: rest)))) : GoP p e below Φ (T.setTop (mkF m pc Ls (.int n :: rest))) := by
  subst hp
  obtain ⟨T', h', cA, X', e', E', A', Ex', O', st'⟩ := newRA X hx hZ hown hC w1 w2 eT (g := mkF m pc Ls (.int n :: rest)) rfl (hb hby hd) rfl hn hcap hbb hc hl had
  exact own_step st' (k T' h' _ X' e' E' rfl (AV.new A' hn) ⟨_, A'.1, Or.inr ⟨_, O'⟩⟩ Ex')
theorem own_tsw (X : Stand p l e R s m args below meth c T locs cells slots) (hx : p.tables.exec = Jvm.exec) (hby : c.code = bytes) {df lo hi o : Int} {offs : Array Int} {len : Nat} {i : Int32} (hd : decode bytes pc = .ok (.tableswitch df lo hi offs, len)) (hin : ¬ (i.toInt < lo ∨ i.toInt > hi)) (hoff : offs[(i.toInt - lo).toNat]? = some o) (ho : 0 ≤ (pc : Int) + o) (hp : ((pc : Int) + o).toNat = pc') (k : GoP p e below Φ (T.setTop (mkF m pc' Ls (rest)))) : GoP p e below Φ (T.setTop (mkF m pc Ls (.int i :: rest))) := by
  subst hp
  exact own_step (fun t u => X.tableswitchIn hx (g := mkF m pc Ls (.int i :: rest)) rfl rfl (hb hby hd) hin hoff ho t u) k
theorem own_lswD (X : Stand p l e R s m args below meth c T locs cells slots) (hx : p.tables.exec = Jvm.exec) (hby : c.code = bytes) {df : Int} {prs : Array (Int × Int)} {len : Nat} {i : Int32} (hd : decode bytes pc = .ok (.lookupswitch df prs, len)) (hso : (prs.toList.zip (prs.toList.drop 1)).all (fun (a, next) => a.1 < next.1) = true) (hfi : prs.find? (·.1 == i.toInt) = none) (ho : 0 ≤ (pc : Int) + df) (hp : ((pc : Int) + df).toNat = pc') (k : GoP p e below Φ (T.setTop (mkF m pc' Ls (rest)))) : GoP p e below Φ (T.setTop (mkF m pc Ls (.int i :: rest))) := by
  subst hp
  exact own_step (fun t u => X.lookupswitchMiss hx (g := mkF m pc Ls (.int i :: rest)) rfl rfl (hb hby hd) hso hfi ho t u) k
end OwnKitM
end Jvm.Pilot.@@N@@
namespace Jvm.Pilot.@@N@@
open Jvm Jvm.ClassFile Sem Op Lib Jvm.Free Jvm.Stand Jvm.LawKit Jvm.RoadKit Bundle Jvm.Pilot.@@N@@.Jvm.D
theorem own_strs0 : ∀ a ∈ Bundle.stringAtoms, a ∈ tables_1 := by decide +kernel
theorem own_strs {Z : State} {a0 : Array Value} (hw : ∀ d ∈ tables_1, d.before a0 Z = true) : ∀ a ∈ Bundle.stringAtoms, a.before a0 Z = true := fun a q => hw a (own_strs0 a q)
theorem own_z0 : (0 : Int32).toInt = 0 := by decide
def own_tot (x y : Int32) : Int64 := x.toInt64 + y.toInt64
theorem own_tz (x y : Int32) : (((0 : Int64) + x.toInt64) + y.toInt64) = own_tot x y := by unfold own_tot; rw [Int64.zero_add]
theorem own_eq0 {x : Int32} (h1 : ¬ (0 : Int32) < x) (h2 : ¬ x < (0 : Int32)) : x = 0 := by
  rw [Int32.lt_iff_toInt_lt, own_z0] at h1 h2
  exact Int32.toInt_inj.mp (by rw [own_z0]; omega)
/-- how a marking of two places is kept -/
def own_fm (mv : Value) (mc : Int32) (vs : List Value) (x y : Int32) : Prop :=
  (mv.isRef = true ∧ mv.category = 1 ∧ vs = [] ∧ mc = 0 ∧ x = 0 ∧ y = 0) ∨ (mv = .null ∧ vs = [.int x, .int y] ∧ mc = 1 ∧ (0 : Int32) < x ∧ ¬ (0 : Int32) < y) ∨ (mv = .null ∧ vs = [.int x, .int y] ∧ mc = 1 ∧ ¬ (0 : Int32) < x ∧ (0 : Int32) < y) ∨ (mv = .null ∧ vs = [.int x, .int y] ∧ mc = 2 ∧ (0 : Int32) < x ∧ (0 : Int32) < y)
theorem own_fmc {mv : Value} {mc : Int32} {vs : List Value} {x y : Int32} (h : own_fm mv mc vs x y) : mc = 0 ∨ mc = 1 ∨ mc = 2 := by
  rcases h with ⟨-, -, -, h, -⟩ | ⟨-, -, h, -⟩ | ⟨-, -, h, -⟩ | ⟨-, -, h, -⟩
  · exact Or.inl h
  · exact Or.inr (Or.inl h)
  · exact Or.inr (Or.inl h)
  · exact Or.inr (Or.inr h)
def own_pr (x y : Int32) : List Value := (if (0 : Int32) < x then [.int 0, .int x] else []) ++ (if (0 : Int32) < y then [.int 1, .int y] else [])
def own_pl (x y : Int32) : Int32 := (if (0 : Int32) < x then 2 else 0) + (if (0 : Int32) < y then 2 else 0)
def own_cv (z0 z1 x0 x1 : Int32) : Int32 := if z0 < x0 then 0 else if z1 < x1 then 0 else 1
def own_cd (z0 z1 x0 x1 : Int32) : Prop := ¬ z0 < x0 ∧ ¬ z1 < x1 ∧ own_tot x0 x1 < own_tot z0 z1
theorem own_cv0 {z0 z1 x0 x1 : Int32} (h : own_cv z0 z1 x0 x1 = (0 : Int32)) : ¬ own_cd z0 z1 x0 x1 := fun q => by
  rw [own_cv, if_neg q.1, if_neg q.2.1] at h; exact absurd h (by decide)
theorem own_cv1 {z0 z1 x0 x1 : Int32} (h : ¬ own_cv z0 z1 x0 x1 = (0 : Int32)) (t : own_tot x0 x1 < own_tot z0 z1) : own_cd z0 z1 x0 x1 := by
  refine ⟨fun q => h ?_, fun q => h ?_, t⟩
  · rw [own_cv, if_pos q]
  · by_cases u : z0 < x0
    · rw [own_cv, if_pos u]
    · rw [own_cv, if_neg u, if_pos q]
theorem own_cva {z0 z1 x0 x1 : Int32} (h : z0 < x0) : own_cv z0 z1 x0 x1 = 0 := by rw [own_cv, if_pos h]
theorem own_cvb {z0 z1 x0 x1 : Int32} (h : z1 < x1) : own_cv z0 z1 x0 x1 = 0 := by
  by_cases u : z0 < x0
  · rw [own_cv, if_pos u]
  · rw [own_cv, if_neg u, if_pos h]
theorem own_cvc {z0 z1 x0 x1 : Int32} (h : ¬ z0 < x0) (h' : ¬ z1 < x1) : own_cv z0 z1 x0 x1 = 1 := by rw [own_cv, if_neg h, if_neg h']
theorem own_l1 {z x : Int32} (h : ¬ (0 : Int32) < z) (h' : (0 : Int32) < x) : z < x := by
  rw [Int32.lt_iff_toInt_lt] at *; omega
theorem own_l2 {z x : Int32} (h : ¬ z < (0 : Int32)) (h' : ¬ (0 : Int32) < x) : ¬ z < x := by
  rw [Int32.lt_iff_toInt_lt] at *; omega
theorem ef_rmMx_m1_0 (m : MethodId) (x0 : Int32) (x1 : Int32) : entryFrame m #[(.int x0), (.int x1)] 2 = mkF m 0 #[.val (.int x0), .val (.int x1)] [] := by first | (simp [entryFrame, mkF, argsToLocals, Value.category]; done) | rfl
theorem jd_29_65__0 : decode jdk_29_method_65_code 0 = .ok (.iload_n 0, 1) := by decide +kernel
theorem jd_29_65__1 : decode jdk_29_method_65_code 1 = .ok (.iload_n 1, 1) := by decide +kernel
theorem jd_29_65__2 : decode jdk_29_method_65_code 2 = .ok (.if_icmp .lt 7, 3) := by decide +kernel
theorem jd_29_65__9 : decode jdk_29_method_65_code 9 = .ok (.iload_n 1, 1) := by decide +kernel
theorem jd_29_65__10 : decode jdk_29_method_65_code 10 = .ok (.ireturn, 1) := by decide +kernel
set_option maxRecDepth 65536 in
set_option maxHeartbeats 40000000 in
theorem rmMx_m1_0 (l : Launch) (Z : State) (a0 : Array Value) (hw : ∀ d ∈ tables_1, d.before a0 Z = true)  (h0 : Heap)  : Con l Z (⟨"java/lang/Math", "max", "(II)I"⟩ : MethodName) jdk_29_method_65_code 2 (some .int) [] ({ frames := 0, cells := 0, slots := 0, locals := 0 } : Room) #[(.int (-1 : Int32)), (.int (0 : Int32))] h0 (fun v h L => v = some (.int (0 : Int32)) ∧ L = [] ∧ h = h0) := by
  refine Con.of (by decide +kernel) ?_
  intro p e s m below meth c T X hx hby hml hown hnm hret eT hZ hsh Φ fin
  replace hown : s.vm.findClass "java/lang/Math" = some m.cls := hown
  replace hml : 2 = c.maxLocals := hml.symm
  refine own_step (fun tq kq => castTop (ef_rmMx_m1_0 m (-1 : Int32) (0 : Int32)) kq) ?_
  refine own_iloadN X hx hby jd_29_65__0 rfl (pc' := 1) rfl ?_
  refine own_iloadN X hx hby jd_29_65__1 rfl (pc' := 2) rfl ?_
  refine own_icmpY X hx hby jd_29_65__2 (tlt (by decide)).1 (by decide) (pc' := 9) (by decide) ?_
  refine own_iloadN X hx hby jd_29_65__9 rfl (pc' := 10) rfl ?_
  exact own_retI X hx hby fin hret jd_29_65__10 (by decide) (by decide) ⟨rfl, rfl, eT⟩
theorem ef_rmMx_0_1 (m : MethodId) (x0 : Int32) (x1 : Int32) : entryFrame m #[(.int x0), (.int x1)] 2 = mkF m 0 #[.val (.int x0), .val (.int x1)] [] := by first | (simp [entryFrame, mkF, argsToLocals, Value.category]; done) | rfl
set_option maxRecDepth 65536 in
set_option maxHeartbeats 40000000 in
theorem rmMx_0_1 (l : Launch) (Z : State) (a0 : Array Value) (hw : ∀ d ∈ tables_1, d.before a0 Z = true)  (h0 : Heap)  : Con l Z (⟨"java/lang/Math", "max", "(II)I"⟩ : MethodName) jdk_29_method_65_code 2 (some .int) [] ({ frames := 0, cells := 0, slots := 0, locals := 0 } : Room) #[(.int (0 : Int32)), (.int (1 : Int32))] h0 (fun v h L => v = some (.int (1 : Int32)) ∧ L = [] ∧ h = h0) := by
  refine Con.of (by decide +kernel) ?_
  intro p e s m below meth c T X hx hby hml hown hnm hret eT hZ hsh Φ fin
  replace hown : s.vm.findClass "java/lang/Math" = some m.cls := hown
  replace hml : 2 = c.maxLocals := hml.symm
  refine own_step (fun tq kq => castTop (ef_rmMx_0_1 m (0 : Int32) (1 : Int32)) kq) ?_
  refine own_iloadN X hx hby jd_29_65__0 rfl (pc' := 1) rfl ?_
  refine own_iloadN X hx hby jd_29_65__1 rfl (pc' := 2) rfl ?_
  refine own_icmpY X hx hby jd_29_65__2 (tlt (by decide)).1 (by decide) (pc' := 9) (by decide) ?_
  refine own_iloadN X hx hby jd_29_65__9 rfl (pc' := 10) rfl ?_
  exact own_retI X hx hby fin hret jd_29_65__10 (by decide) (by decide) ⟨rfl, rfl, eT⟩
theorem ef_rmMx_2_0 (m : MethodId) (x0 : Int32) (x1 : Int32) : entryFrame m #[(.int x0), (.int x1)] 2 = mkF m 0 #[.val (.int x0), .val (.int x1)] [] := by first | (simp [entryFrame, mkF, argsToLocals, Value.category]; done) | rfl
theorem jd_29_65__5 : decode jdk_29_method_65_code 5 = .ok (.iload_n 0, 1) := by decide +kernel
theorem jd_29_65__6 : decode jdk_29_method_65_code 6 = .ok (.goto 4, 3) := by decide +kernel
set_option maxRecDepth 65536 in
set_option maxHeartbeats 40000000 in
theorem rmMx_2_0 (l : Launch) (Z : State) (a0 : Array Value) (hw : ∀ d ∈ tables_1, d.before a0 Z = true)  (h0 : Heap)  : Con l Z (⟨"java/lang/Math", "max", "(II)I"⟩ : MethodName) jdk_29_method_65_code 2 (some .int) [] ({ frames := 0, cells := 0, slots := 0, locals := 0 } : Room) #[(.int (2 : Int32)), (.int (0 : Int32))] h0 (fun v h L => v = some (.int (2 : Int32)) ∧ L = [] ∧ h = h0) := by
  refine Con.of (by decide +kernel) ?_
  intro p e s m below meth c T X hx hby hml hown hnm hret eT hZ hsh Φ fin
  replace hown : s.vm.findClass "java/lang/Math" = some m.cls := hown
  replace hml : 2 = c.maxLocals := hml.symm
  refine own_step (fun tq kq => castTop (ef_rmMx_2_0 m (2 : Int32) (0 : Int32)) kq) ?_
  refine own_iloadN X hx hby jd_29_65__0 rfl (pc' := 1) rfl ?_
  refine own_iloadN X hx hby jd_29_65__1 rfl (pc' := 2) rfl ?_
  refine own_icmpN X hx hby jd_29_65__2 (flt (by decide)).1 (pc' := 5) rfl ?_
  refine own_iloadN X hx hby jd_29_65__5 rfl (pc' := 6) rfl ?_
  refine own_goto X hx hby jd_29_65__6 (by decide) (pc' := 10) (by decide) ?_
  exact own_retI X hx hby fin hret jd_29_65__10 (by decide) (by decide) ⟨rfl, rfl, eT⟩
theorem ef_rmMx_4_0 (m : MethodId) (x0 : Int32) (x1 : Int32) : entryFrame m #[(.int x0), (.int x1)] 2 = mkF m 0 #[.val (.int x0), .val (.int x1)] [] := by first | (simp [entryFrame, mkF, argsToLocals, Value.category]; done) | rfl
set_option maxRecDepth 65536 in
set_option maxHeartbeats 40000000 in
theorem rmMx_4_0 (l : Launch) (Z : State) (a0 : Array Value) (hw : ∀ d ∈ tables_1, d.before a0 Z = true)  (h0 : Heap)  : Con l Z (⟨"java/lang/Math", "max", "(II)I"⟩ : MethodName) jdk_29_method_65_code 2 (some .int) [] ({ frames := 0, cells := 0, slots := 0, locals := 0 } : Room) #[(.int (4 : Int32)), (.int (0 : Int32))] h0 (fun v h L => v = some (.int (4 : Int32)) ∧ L = [] ∧ h = h0) := by
  refine Con.of (by decide +kernel) ?_
  intro p e s m below meth c T X hx hby hml hown hnm hret eT hZ hsh Φ fin
  replace hown : s.vm.findClass "java/lang/Math" = some m.cls := hown
  replace hml : 2 = c.maxLocals := hml.symm
  refine own_step (fun tq kq => castTop (ef_rmMx_4_0 m (4 : Int32) (0 : Int32)) kq) ?_
  refine own_iloadN X hx hby jd_29_65__0 rfl (pc' := 1) rfl ?_
  refine own_iloadN X hx hby jd_29_65__1 rfl (pc' := 2) rfl ?_
  refine own_icmpN X hx hby jd_29_65__2 (flt (by decide)).1 (pc' := 5) rfl ?_
  refine own_iloadN X hx hby jd_29_65__5 rfl (pc' := 6) rfl ?_
  refine own_goto X hx hby jd_29_65__6 (by decide) (pc' := 10) (by decide) ?_
  exact own_retI X hx hby fin hret jd_29_65__10 (by decide) (by decide) ⟨rfl, rfl, eT⟩
theorem ef_rmNT1 (m : MethodId) (x0 : Int32) : entryFrame m #[(.int x0)] 2 = mkF m 0 #[.val (.int x0), .unset] [] := by first | (simp [entryFrame, mkF, argsToLocals, Value.category]; done) | rfl
theorem pn_java_lang_Integer : plainName "java/lang/Integer" = true := by first | (simp [plainName, overriddenIn]; done) | decide +kernel
theorem jd_33_48__0 : decode jdk_33_method_48_code 0 = .ok (.iload_n 0, 1) := by decide +kernel
theorem jd_33_48__1 : decode jdk_33_method_48_code 1 = .ok (.iconst (-1), 1) := by decide +kernel
theorem jd_33_48__2 : decode jdk_33_method_48_code 2 = .ok (.ixor, 1) := by decide +kernel
theorem jd_33_48__3 : decode jdk_33_method_48_code 3 = .ok (.iload_n 0, 1) := by decide +kernel
theorem jd_33_48__4 : decode jdk_33_method_48_code 4 = .ok (.iconst 1, 1) := by decide +kernel
theorem jd_33_48__5 : decode jdk_33_method_48_code 5 = .ok (.isub, 1) := by decide +kernel
theorem jd_33_48__6 : decode jdk_33_method_48_code 6 = .ok (.iand, 1) := by decide +kernel
theorem jd_33_48__7 : decode jdk_33_method_48_code 7 = .ok (.istore_n 0, 1) := by decide +kernel
theorem jd_33_48__8 : decode jdk_33_method_48_code 8 = .ok (.iload_n 0, 1) := by decide +kernel
theorem jd_33_48__9 : decode jdk_33_method_48_code 9 = .ok (.ifCond .gt 8, 3) := by decide +kernel
theorem jd_33_48__12 : decode jdk_33_method_48_code 12 = .ok (.iload_n 0, 1) := by decide +kernel
theorem jd_33_48__13 : decode jdk_33_method_48_code 13 = .ok (.bipush 32, 2) := by decide +kernel
theorem jd_33_48__15 : decode jdk_33_method_48_code 15 = .ok (.iand, 1) := by decide +kernel
theorem jd_33_48__16 : decode jdk_33_method_48_code 16 = .ok (.ireturn, 1) := by decide +kernel
set_option maxRecDepth 65536 in
set_option maxHeartbeats 40000000 in
theorem rmNT1 (l : Launch) (Z : State) (a0 : Array Value) (hw : ∀ d ∈ tables_1, d.before a0 Z = true)  (h0 : Heap)  : Con l Z (⟨"java/lang/Integer", "numberOfTrailingZeros", "(I)I"⟩ : MethodName) jdk_33_method_48_code 2 (some .int) [] ({ frames := 0, cells := 0, slots := 0, locals := 0 } : Room) #[(.int (1 : Int32))] h0 (fun v h L => v = some (.int (0 : Int32)) ∧ L = [] ∧ h = h0) := by
  refine Con.of (plainFor_of_name pn_java_lang_Integer) ?_
  intro p e s m below meth c T X hx hby hml hown hnm hret eT hZ hsh Φ fin
  replace hown : s.vm.findClass "java/lang/Integer" = some m.cls := hown
  replace hml : 2 = c.maxLocals := hml.symm
  refine own_step (fun tq kq => castTop (ef_rmNT1 m (1 : Int32)) kq) ?_
  refine own_iloadN X hx hby jd_33_48__0 rfl (pc' := 1) rfl ?_
  refine own_iconst X hx hby jd_33_48__1 (v := (-1 : Int32)) rfl (pc' := 2) rfl ?_
  refine own_ixor X hx hby jd_33_48__2 (pc' := 3) rfl ?_
  show GoP p e below Φ (T.setTop (mkF m 3 #[.val (.int (1 : Int32)), .unset] [(.int (-2 : Int32))]))
  refine own_iloadN X hx hby jd_33_48__3 rfl (pc' := 4) rfl ?_
  refine own_iconst X hx hby jd_33_48__4 (v := (1 : Int32)) rfl (pc' := 5) rfl ?_
  refine own_isub X hx hby jd_33_48__5 (pc' := 6) rfl ?_
  show GoP p e below Φ (T.setTop (mkF m 6 #[.val (.int (1 : Int32)), .unset] [(.int (0 : Int32)), (.int (-2 : Int32))]))
  refine own_iand X hx hby jd_33_48__6 (pc' := 7) rfl ?_
  show GoP p e below Φ (T.setTop (mkF m 7 #[.val (.int (1 : Int32)), .unset] [(.int (0 : Int32))]))
  refine own_istoreN X hx hby jd_33_48__7  (Ls' := #[.val (.int (0 : Int32)), .unset]) rfl (pc' := 8) rfl ?_
  refine own_iloadN X hx hby jd_33_48__8 rfl (pc' := 9) rfl ?_
  refine own_ifN X hx hby jd_33_48__9 ((if0 _ _).trans (flt (by decide)).2.2.1) (pc' := 12) rfl ?_
  refine own_iloadN X hx hby jd_33_48__12 rfl (pc' := 13) rfl ?_
  refine own_bipush X hx hby jd_33_48__13 (v := (32 : Int32)) rfl (pc' := 15) rfl ?_
  refine own_iand X hx hby jd_33_48__15 (pc' := 16) rfl ?_
  show GoP p e below Φ (T.setTop (mkF m 16 #[.val (.int (0 : Int32)), .unset] [(.int (0 : Int32))]))
  exact own_retI X hx hby fin hret jd_33_48__16 (by decide) (by decide) ⟨rfl, rfl, eT⟩
theorem ef_rmNT0 (m : MethodId) (x0 : Int32) : entryFrame m #[(.int x0)] 2 = mkF m 0 #[.val (.int x0), .unset] [] := by first | (simp [entryFrame, mkF, argsToLocals, Value.category]; done) | rfl
set_option maxRecDepth 65536 in
set_option maxHeartbeats 40000000 in
theorem rmNT0 (l : Launch) (Z : State) (a0 : Array Value) (hw : ∀ d ∈ tables_1, d.before a0 Z = true)  (h0 : Heap)  : Con l Z (⟨"java/lang/Integer", "numberOfTrailingZeros", "(I)I"⟩ : MethodName) jdk_33_method_48_code 2 (some .int) [] ({ frames := 0, cells := 0, slots := 0, locals := 0 } : Room) #[(.int (0 : Int32))] h0 (fun v h L => v = some (.int (32 : Int32)) ∧ L = [] ∧ h = h0) := by
  refine Con.of (plainFor_of_name pn_java_lang_Integer) ?_
  intro p e s m below meth c T X hx hby hml hown hnm hret eT hZ hsh Φ fin
  replace hown : s.vm.findClass "java/lang/Integer" = some m.cls := hown
  replace hml : 2 = c.maxLocals := hml.symm
  refine own_step (fun tq kq => castTop (ef_rmNT0 m (0 : Int32)) kq) ?_
  refine own_iloadN X hx hby jd_33_48__0 rfl (pc' := 1) rfl ?_
  refine own_iconst X hx hby jd_33_48__1 (v := (-1 : Int32)) rfl (pc' := 2) rfl ?_
  refine own_ixor X hx hby jd_33_48__2 (pc' := 3) rfl ?_
  show GoP p e below Φ (T.setTop (mkF m 3 #[.val (.int (0 : Int32)), .unset] [(.int (-1 : Int32))]))
  refine own_iloadN X hx hby jd_33_48__3 rfl (pc' := 4) rfl ?_
  refine own_iconst X hx hby jd_33_48__4 (v := (1 : Int32)) rfl (pc' := 5) rfl ?_
  refine own_isub X hx hby jd_33_48__5 (pc' := 6) rfl ?_
  show GoP p e below Φ (T.setTop (mkF m 6 #[.val (.int (0 : Int32)), .unset] [(.int (-1 : Int32)), (.int (-1 : Int32))]))
  refine own_iand X hx hby jd_33_48__6 (pc' := 7) rfl ?_
  show GoP p e below Φ (T.setTop (mkF m 7 #[.val (.int (0 : Int32)), .unset] [(.int (-1 : Int32))]))
  refine own_istoreN X hx hby jd_33_48__7  (Ls' := #[.val (.int (-1 : Int32)), .unset]) rfl (pc' := 8) rfl ?_
  refine own_iloadN X hx hby jd_33_48__8 rfl (pc' := 9) rfl ?_
  refine own_ifN X hx hby jd_33_48__9 ((if0 _ _).trans (flt (by decide)).2.2.1) (pc' := 12) rfl ?_
  refine own_iloadN X hx hby jd_33_48__12 rfl (pc' := 13) rfl ?_
  refine own_bipush X hx hby jd_33_48__13 (v := (32 : Int32)) rfl (pc' := 15) rfl ?_
  refine own_iand X hx hby jd_33_48__15 (pc' := 16) rfl ?_
  show GoP p e below Φ (T.setTop (mkF m 16 #[.val (.int (-1 : Int32)), .unset] [(.int (32 : Int32))]))
  exact own_retI X hx hby fin hret jd_33_48__16 (by decide) (by decide) ⟨rfl, rfl, eT⟩
theorem ef_rmMn (m : MethodId) (x0 : Int32) (x1 : Int32) : entryFrame m #[(.int x0), (.int x1)] 2 = mkF m 0 #[.val (.int x0), .val (.int x1)] [] := by first | (simp [entryFrame, mkF, argsToLocals, Value.category]; done) | rfl
theorem jd_29_69__0 : decode jdk_29_method_69_code 0 = .ok (.iload_n 0, 1) := by decide +kernel
theorem jd_29_69__1 : decode jdk_29_method_69_code 1 = .ok (.iload_n 1, 1) := by decide +kernel
theorem jd_29_69__2 : decode jdk_29_method_69_code 2 = .ok (.if_icmp .gt 7, 3) := by decide +kernel
theorem jd_29_69__5 : decode jdk_29_method_69_code 5 = .ok (.iload_n 0, 1) := by decide +kernel
theorem jd_29_69__6 : decode jdk_29_method_69_code 6 = .ok (.goto 4, 3) := by decide +kernel
theorem jd_29_69__10 : decode jdk_29_method_69_code 10 = .ok (.ireturn, 1) := by decide +kernel
set_option maxRecDepth 65536 in
set_option maxHeartbeats 40000000 in
theorem rmMn (l : Launch) (Z : State) (a0 : Array Value) (hw : ∀ d ∈ tables_1, d.before a0 Z = true) (k : Int32) (h0 : Heap) (hk2 : ¬ (2 : Int32) < k) : Con l Z (⟨"java/lang/Math", "min", "(II)I"⟩ : MethodName) jdk_29_method_69_code 2 (some .int) [] ({ frames := 0, cells := 0, slots := 0, locals := 0 } : Room) #[(.int k), (.int (2 : Int32))] h0 (fun v h L => v = some (.int k) ∧ L = [] ∧ h = h0) := by
  refine Con.of (by decide +kernel) ?_
  intro p e s m below meth c T X hx hby hml hown hnm hret eT hZ hsh Φ fin
  replace hown : s.vm.findClass "java/lang/Math" = some m.cls := hown
  replace hml : 2 = c.maxLocals := hml.symm
  refine own_step (fun tq kq => castTop (ef_rmMn m k (2 : Int32)) kq) ?_
  refine own_iloadN X hx hby jd_29_69__0 rfl (pc' := 1) rfl ?_
  refine own_iloadN X hx hby jd_29_69__1 rfl (pc' := 2) rfl ?_
  refine own_icmpN X hx hby jd_29_69__2 (flt hk2).2.2.1 (pc' := 5) rfl ?_
  refine own_iloadN X hx hby jd_29_69__5 rfl (pc' := 6) rfl ?_
  refine own_goto X hx hby jd_29_69__6 (by decide) (pc' := 10) (by decide) ?_
  exact own_retI X hx hby fin hret jd_29_69__10 (by decide) (by decide) ⟨rfl, rfl, eT⟩
theorem ef_rmM1 (m : MethodId) (x0 : Int32) (x1 : Int32) : entryFrame m #[(.int x0), (.int x1)] 2 = mkF m 0 #[.val (.int x0), .val (.int x1)] [] := by first | (simp [entryFrame, mkF, argsToLocals, Value.category]; done) | rfl
set_option maxRecDepth 65536 in
set_option maxHeartbeats 40000000 in
theorem rmM1 (l : Launch) (Z : State) (a0 : Array Value) (hw : ∀ d ∈ tables_1, d.before a0 Z = true) (k : Int32) (h0 : Heap) (hk2 : k = 0 ∨ k = 1 ∨ k = 2) : Con l Z (⟨"java/lang/Math", "max", "(II)I"⟩ : MethodName) jdk_29_method_65_code 2 (some .int) [] ({ frames := 0, cells := 0, slots := 0, locals := 0 } : Room) #[(.int (1 : Int32)), (.int k)] h0 (fun v h L => ∃ r : Int32, v = some (.int r) ∧ L = [] ∧ h = h0 ∧ (r = 1 ∨ r = 2)) := by
  refine Con.of (by decide +kernel) ?_
  intro p e s m below meth c T X hx hby hml hown hnm hret eT hZ hsh Φ fin
  replace hown : s.vm.findClass "java/lang/Math" = some m.cls := hown
  replace hml : 2 = c.maxLocals := hml.symm
  refine own_step (fun tq kq => castTop (ef_rmM1 m (1 : Int32) k) kq) ?_
  refine own_iloadN X hx hby jd_29_65__0 rfl (pc' := 1) rfl ?_
  refine own_iloadN X hx hby jd_29_65__1 rfl (pc' := 2) rfl ?_
  by_cases hc2_1 : (1 : Int32) < k
  · refine own_icmpY X hx hby jd_29_65__2 (tlt hc2_1).1 (by decide) (pc' := 9) (by decide) ?_
    refine own_iloadN X hx hby jd_29_65__9 rfl (pc' := 10) rfl ?_
    exact own_retI X hx hby fin hret jd_29_65__10 (by decide) (by decide) ⟨_, rfl, rfl, eT, (hk2.elim (fun q => absurd hc2_1 (by rw [q]; decide)) id)⟩
  · refine own_icmpN X hx hby jd_29_65__2 (flt hc2_1).1 (pc' := 5) rfl ?_
    refine own_iloadN X hx hby jd_29_65__5 rfl (pc' := 6) rfl ?_
    refine own_goto X hx hby jd_29_65__6 (by decide) (pc' := 10) (by decide) ?_
    exact own_retI X hx hby fin hret jd_29_65__10 (by decide) (by decide) ⟨_, rfl, rfl, eT, Or.inl rfl⟩
theorem ef_rmMJ (m : MethodId) (x0 : Int64) (x1 : Int64) : entryFrame m #[(.long x0), (.long x1)] 4 = mkF m 0 #[.val (.long x0), .second, .val (.long x1), .second] [] := by first | (simp [entryFrame, mkF, argsToLocals, Value.category]; done) | rfl
theorem jd_29_70__0 : decode jdk_29_method_70_code 0 = .ok (.lload_n 0, 1) := by decide +kernel
theorem jd_29_70__1 : decode jdk_29_method_70_code 1 = .ok (.lload_n 2, 1) := by decide +kernel
theorem jd_29_70__2 : decode jdk_29_method_70_code 2 = .ok (.lcmp, 1) := by decide +kernel
theorem jd_29_70__3 : decode jdk_29_method_70_code 3 = .ok (.ifCond .gt 7, 3) := by decide +kernel
theorem jd_29_70__10 : decode jdk_29_method_70_code 10 = .ok (.lload_n 2, 1) := by decide +kernel
theorem jd_29_70__11 : decode jdk_29_method_70_code 11 = .ok (.lreturn, 1) := by decide +kernel
theorem jd_29_70__6 : decode jdk_29_method_70_code 6 = .ok (.lload_n 0, 1) := by decide +kernel
theorem jd_29_70__7 : decode jdk_29_method_70_code 7 = .ok (.goto 4, 3) := by decide +kernel
set_option maxRecDepth 65536 in
set_option maxHeartbeats 40000000 in
theorem rmMJ (l : Launch) (Z : State) (a0 : Array Value) (hw : ∀ d ∈ tables_1, d.before a0 Z = true) (x y : Int64) (h0 : Heap)  : Con l Z (⟨"java/lang/Math", "min", "(JJ)J"⟩ : MethodName) jdk_29_method_70_code 4 (some .long) [] ({ frames := 0, cells := 0, slots := 0, locals := 0 } : Room) #[(.long x), (.long y)] h0 (fun v h L => ∃ r : Int64, v = some (.long r) ∧ L = [] ∧ h = h0) := by
  refine Con.of (by decide +kernel) ?_
  intro p e s m below meth c T X hx hby hml hown hnm hret eT hZ hsh Φ fin
  replace hown : s.vm.findClass "java/lang/Math" = some m.cls := hown
  replace hml : 4 = c.maxLocals := hml.symm
  refine own_step (fun tq kq => castTop (ef_rmMJ m x y) kq) ?_
  refine own_lloadN X hx hby jd_29_70__0 rfl (pc' := 1) rfl ?_
  refine own_lloadN X hx hby jd_29_70__1 rfl (pc' := 2) rfl ?_
  refine own_lcmp X hx hby jd_29_70__2 (pc' := 3) rfl ?_
  by_cases hc3_1 : y < x
  · refine own_ifY X hx hby jd_29_70__3 ((if0 _ _).trans (tlt ((lw_gt _ _).mpr hc3_1)).2.2.1) (by decide) (pc' := 10) (by decide) ?_
    refine own_lloadN X hx hby jd_29_70__10 rfl (pc' := 11) rfl ?_
    exact own_retJ X hx hby fin hret jd_29_70__11 (by decide) (by decide) ⟨_, rfl, rfl, eT⟩
  · refine own_ifN X hx hby jd_29_70__3 ((if0 _ _).trans (flt (fun q => hc3_1 ((lw_gt _ _).mp q))).2.2.1) (pc' := 6) rfl ?_
    refine own_lloadN X hx hby jd_29_70__6 rfl (pc' := 7) rfl ?_
    refine own_goto X hx hby jd_29_70__7 (by decide) (pc' := 11) (by decide) ?_
    exact own_retJ X hx hby fin hret jd_29_70__11 (by decide) (by decide) ⟨_, rfl, rfl, eT⟩
theorem ef_rmEn0 (m : MethodId) (x0 : Addr) : entryFrame m #[(.ref x0)] 1 = mkF m 0 #[.val (.ref x0)] [] := by first | (simp [entryFrame, mkF, argsToLocals, Value.category]; done) | rfl
theorem pn_com_example_tracemass_tracemass_nets_Marking : plainName "com/example/tracemass/tracemass/nets/Marking" = true := by first | (simp [plainName, overriddenIn]; done) | decide +kernel
theorem d_38_10__0 : decode prog_38_method_10_code 0 = .ok (.aload_n 0, 1) := by decide +kernel
theorem d_38_10__1 : decode prog_38_method_10_code 1 = .ok (.getfield 17, 3) := by decide +kernel
theorem d_38_10__4 : decode prog_38_method_10_code 4 = .ok (.arraylength, 1) := by decide +kernel
theorem d_38_10__5 : decode prog_38_method_10_code 5 = .ok (.ireturn, 1) := by decide +kernel
set_option maxRecDepth 65536 in
set_option maxHeartbeats 40000000 in
theorem rmEn0 (l : Launch) (Z : State) (a0 : Array Value) (hw : ∀ d ∈ tables_1, d.before a0 Z = true) (a ct : Addr)  (h0 : Heap) (F : Fld Z h0 a "com/example/tracemass/tracemass/nets/Marking" "counts" "[I" (.ref ct)) (V : AV Z h0 ct .int []) : Con l Z (⟨"com/example/tracemass/tracemass/nets/Marking", "entries", "()I"⟩ : MethodName) prog_38_method_10_code 1 (some .int) [] ({ frames := 0, cells := 0, slots := 0, locals := 0 } : Room) #[(.ref a)] h0 (fun v h L => v = some (.int (0 : Int32)) ∧ L = [] ∧ h = h0) := by
  refine Con.of (plainFor_of_name pn_com_example_tracemass_tracemass_nets_Marking) ?_
  intro p e s m below meth c T X hx hby hml hown hnm hret eT hZ hsh Φ fin
  replace hown : s.vm.findClass "com/example/tracemass/tracemass/nets/Marking" = some m.cls := hown
  replace hml : 1 = c.maxLocals := hml.symm
  refine own_step (fun tq kq => castTop (ef_rmEn0 m a) kq) ?_
  refine own_aloadN X hx hby d_38_10__0 rfl rfl (pc' := 1) rfl ?_
  refine own_getF X hx hby hZ hown (host := "") (Or.inl (own_w hw 34 rfl)) Via.refl eT F d_38_10__1 (pc' := 4) rfl ?_
  intro T1 X1 e1
  refine own_alen X1 hx hby hZ e1 (n := (0 : Int32)) V rfl d_38_10__4 (pc' := 5) rfl ?_
  exact own_retI X1 hx hby fin hret d_38_10__5 (by decide) (by decide) ⟨rfl, rfl, e1⟩
theorem ef_rmEn2 (m : MethodId) (x0 : Addr) : entryFrame m #[(.ref x0)] 1 = mkF m 0 #[.val (.ref x0)] [] := by first | (simp [entryFrame, mkF, argsToLocals, Value.category]; done) | rfl
set_option maxRecDepth 65536 in
set_option maxHeartbeats 40000000 in
theorem rmEn2 (l : Launch) (Z : State) (a0 : Array Value) (hw : ∀ d ∈ tables_1, d.before a0 Z = true) (a ct : Addr) (w0 : Int32) (w1 : Int32) (h0 : Heap) (F : Fld Z h0 a "com/example/tracemass/tracemass/nets/Marking" "counts" "[I" (.ref ct)) (V : AV Z h0 ct .int [(.int w0), (.int w1)]) : Con l Z (⟨"com/example/tracemass/tracemass/nets/Marking", "entries", "()I"⟩ : MethodName) prog_38_method_10_code 1 (some .int) [] ({ frames := 0, cells := 0, slots := 0, locals := 0 } : Room) #[(.ref a)] h0 (fun v h L => v = some (.int (2 : Int32)) ∧ L = [] ∧ h = h0) := by
  refine Con.of (plainFor_of_name pn_com_example_tracemass_tracemass_nets_Marking) ?_
  intro p e s m below meth c T X hx hby hml hown hnm hret eT hZ hsh Φ fin
  replace hown : s.vm.findClass "com/example/tracemass/tracemass/nets/Marking" = some m.cls := hown
  replace hml : 1 = c.maxLocals := hml.symm
  refine own_step (fun tq kq => castTop (ef_rmEn2 m a) kq) ?_
  refine own_aloadN X hx hby d_38_10__0 rfl rfl (pc' := 1) rfl ?_
  refine own_getF X hx hby hZ hown (host := "") (Or.inl (own_w hw 34 rfl)) Via.refl eT F d_38_10__1 (pc' := 4) rfl ?_
  intro T1 X1 e1
  refine own_alen X1 hx hby hZ e1 (n := (2 : Int32)) V rfl d_38_10__4 (pc' := 5) rfl ?_
  exact own_retI X1 hx hby fin hret d_38_10__5 (by decide) (by decide) ⟨rfl, rfl, e1⟩
theorem ef_rmEP (m : MethodId) (x0 : Addr) (x1 : Int32) : entryFrame m #[(.ref x0), (.int x1)] 2 = mkF m 0 #[.val (.ref x0), .val (.int x1)] [] := by first | (simp [entryFrame, mkF, argsToLocals, Value.category]; done) | rfl
theorem d_38_11__0 : decode prog_38_method_11_code 0 = .ok (.aload_n 0, 1) := by decide +kernel
theorem d_38_11__1 : decode prog_38_method_11_code 1 = .ok (.getfield 13, 3) := by decide +kernel
theorem d_38_11__4 : decode prog_38_method_11_code 4 = .ok (.ifnonnull 7, 3) := by decide +kernel
theorem d_38_11__7 : decode prog_38_method_11_code 7 = .ok (.iload_n 1, 1) := by decide +kernel
theorem d_38_11__8 : decode prog_38_method_11_code 8 = .ok (.goto 9, 3) := by decide +kernel
theorem d_38_11__17 : decode prog_38_method_11_code 17 = .ok (.ireturn, 1) := by decide +kernel
set_option maxRecDepth 65536 in
set_option maxHeartbeats 40000000 in
theorem rmEP (l : Launch) (Z : State) (a0 : Array Value) (hw : ∀ d ∈ tables_1, d.before a0 Z = true) (a : Addr) (i : Int32) (h0 : Heap) (F : Fld Z h0 a "com/example/tracemass/tracemass/nets/Marking" "marked" "[I" .null) : Con l Z (⟨"com/example/tracemass/tracemass/nets/Marking", "entryPlace", "(I)I"⟩ : MethodName) prog_38_method_11_code 2 (some .int) [] ({ frames := 0, cells := 0, slots := 0, locals := 0 } : Room) #[(.ref a), (.int i)] h0 (fun v h L => v = some (.int i) ∧ L = [] ∧ h = h0) := by
  refine Con.of (plainFor_of_name pn_com_example_tracemass_tracemass_nets_Marking) ?_
  intro p e s m below meth c T X hx hby hml hown hnm hret eT hZ hsh Φ fin
  replace hown : s.vm.findClass "com/example/tracemass/tracemass/nets/Marking" = some m.cls := hown
  replace hml : 2 = c.maxLocals := hml.symm
  refine own_step (fun tq kq => castTop (ef_rmEP m a i) kq) ?_
  refine own_aloadN X hx hby d_38_11__0 rfl rfl (pc' := 1) rfl ?_
  refine own_getF X hx hby hZ hown (host := "") (Or.inl (own_w hw 32 rfl)) Via.refl eT F d_38_11__1 (pc' := 4) rfl ?_
  intro T1 X1 e1
  refine own_ifnonnullN X1 hx hby d_38_11__4 (pc' := 7) rfl ?_
  refine own_iloadN X1 hx hby d_38_11__7 rfl (pc' := 8) rfl ?_
  refine own_goto X1 hx hby d_38_11__8 (by decide) (pc' := 17) (by decide) ?_
  exact own_retI X1 hx hby fin hret d_38_11__17 (by decide) (by decide) ⟨rfl, rfl, e1⟩
theorem ef_rmET0 (m : MethodId) (x0 : Addr) (x1 : Int32) : entryFrame m #[(.ref x0), (.int x1)] 2 = mkF m 0 #[.val (.ref x0), .val (.int x1)] [] := by first | (simp [entryFrame, mkF, argsToLocals, Value.category]; done) | rfl
theorem d_38_12__0 : decode prog_38_method_12_code 0 = .ok (.aload_n 0, 1) := by decide +kernel
theorem d_38_12__1 : decode prog_38_method_12_code 1 = .ok (.getfield 17, 3) := by decide +kernel
theorem d_38_12__4 : decode prog_38_method_12_code 4 = .ok (.iload_n 1, 1) := by decide +kernel
theorem d_38_12__5 : decode prog_38_method_12_code 5 = .ok (.iaload, 1) := by decide +kernel
theorem d_38_12__6 : decode prog_38_method_12_code 6 = .ok (.ireturn, 1) := by decide +kernel
set_option maxRecDepth 65536 in
set_option maxHeartbeats 40000000 in
theorem rmET0 (l : Launch) (Z : State) (a0 : Array Value) (hw : ∀ d ∈ tables_1, d.before a0 Z = true) (a ct : Addr) (w0 w1 : Int32) (h0 : Heap) (F : Fld Z h0 a "com/example/tracemass/tracemass/nets/Marking" "counts" "[I" (.ref ct)) (V : AV Z h0 ct .int [.int w0, .int w1]) : Con l Z (⟨"com/example/tracemass/tracemass/nets/Marking", "entryTokens", "(I)I"⟩ : MethodName) prog_38_method_12_code 2 (some .int) [] ({ frames := 0, cells := 0, slots := 0, locals := 0 } : Room) #[(.ref a), (.int (0 : Int32))] h0 (fun v h L => v = some (.int w0) ∧ L = [] ∧ h = h0) := by
  refine Con.of (plainFor_of_name pn_com_example_tracemass_tracemass_nets_Marking) ?_
  intro p e s m below meth c T X hx hby hml hown hnm hret eT hZ hsh Φ fin
  replace hown : s.vm.findClass "com/example/tracemass/tracemass/nets/Marking" = some m.cls := hown
  replace hml : 2 = c.maxLocals := hml.symm
  refine own_step (fun tq kq => castTop (ef_rmET0 m a (0 : Int32)) kq) ?_
  refine own_aloadN X hx hby d_38_12__0 rfl rfl (pc' := 1) rfl ?_
  refine own_getF X hx hby hZ hown (host := "") (Or.inl (own_w hw 34 rfl)) Via.refl eT F d_38_12__1 (pc' := 4) rfl ?_
  intro T1 X1 e1
  refine own_iloadN X1 hx hby d_38_12__4 rfl (pc' := 5) rfl ?_
  refine own_iaload X1 hx hby hZ e1 V (by decide) (v := (.int w0)) rfl d_38_12__5 (pc' := 6) rfl ?_
  exact own_retI X1 hx hby fin hret d_38_12__6 (by decide) (by decide) ⟨rfl, rfl, e1⟩
theorem ef_rmET1 (m : MethodId) (x0 : Addr) (x1 : Int32) : entryFrame m #[(.ref x0), (.int x1)] 2 = mkF m 0 #[.val (.ref x0), .val (.int x1)] [] := by first | (simp [entryFrame, mkF, argsToLocals, Value.category]; done) | rfl
set_option maxRecDepth 65536 in
set_option maxHeartbeats 40000000 in
theorem rmET1 (l : Launch) (Z : State) (a0 : Array Value) (hw : ∀ d ∈ tables_1, d.before a0 Z = true) (a ct : Addr) (w0 w1 : Int32) (h0 : Heap) (F : Fld Z h0 a "com/example/tracemass/tracemass/nets/Marking" "counts" "[I" (.ref ct)) (V : AV Z h0 ct .int [.int w0, .int w1]) : Con l Z (⟨"com/example/tracemass/tracemass/nets/Marking", "entryTokens", "(I)I"⟩ : MethodName) prog_38_method_12_code 2 (some .int) [] ({ frames := 0, cells := 0, slots := 0, locals := 0 } : Room) #[(.ref a), (.int (1 : Int32))] h0 (fun v h L => v = some (.int w1) ∧ L = [] ∧ h = h0) := by
  refine Con.of (plainFor_of_name pn_com_example_tracemass_tracemass_nets_Marking) ?_
  intro p e s m below meth c T X hx hby hml hown hnm hret eT hZ hsh Φ fin
  replace hown : s.vm.findClass "com/example/tracemass/tracemass/nets/Marking" = some m.cls := hown
  replace hml : 2 = c.maxLocals := hml.symm
  refine own_step (fun tq kq => castTop (ef_rmET1 m a (1 : Int32)) kq) ?_
  refine own_aloadN X hx hby d_38_12__0 rfl rfl (pc' := 1) rfl ?_
  refine own_getF X hx hby hZ hown (host := "") (Or.inl (own_w hw 34 rfl)) Via.refl eT F d_38_12__1 (pc' := 4) rfl ?_
  intro T1 X1 e1
  refine own_iloadN X1 hx hby d_38_12__4 rfl (pc' := 5) rfl ?_
  refine own_iaload X1 hx hby hZ e1 V (by decide) (v := (.int w1)) rfl d_38_12__5 (pc' := 6) rfl ?_
  exact own_retI X1 hx hby fin hret d_38_12__6 (by decide) (by decide) ⟨rfl, rfl, e1⟩
theorem ef_rmMd (m : MethodId) (x0 : Addr) : entryFrame m #[(.ref x0)] 1 = mkF m 0 #[.val (.ref x0)] [] := by first | (simp [entryFrame, mkF, argsToLocals, Value.category]; done) | rfl
theorem d_38_9__0 : decode prog_38_method_9_code 0 = .ok (.aload_n 0, 1) := by decide +kernel
theorem d_38_9__1 : decode prog_38_method_9_code 1 = .ok (.getfield 20, 3) := by decide +kernel
theorem d_38_9__4 : decode prog_38_method_9_code 4 = .ok (.ireturn, 1) := by decide +kernel
set_option maxRecDepth 65536 in
set_option maxHeartbeats 40000000 in
theorem rmMd (l : Launch) (Z : State) (a0 : Array Value) (hw : ∀ d ∈ tables_1, d.before a0 Z = true) (a : Addr) (mc : Int32) (h0 : Heap) (F : Fld Z h0 a "com/example/tracemass/tracemass/nets/Marking" "markedCount" "I" (.int mc)) : Con l Z (⟨"com/example/tracemass/tracemass/nets/Marking", "marked", "()I"⟩ : MethodName) prog_38_method_9_code 1 (some .int) [] ({ frames := 0, cells := 0, slots := 0, locals := 0 } : Room) #[(.ref a)] h0 (fun v h L => v = some (.int mc) ∧ L = [] ∧ h = h0) := by
  refine Con.of (plainFor_of_name pn_com_example_tracemass_tracemass_nets_Marking) ?_
  intro p e s m below meth c T X hx hby hml hown hnm hret eT hZ hsh Φ fin
  replace hown : s.vm.findClass "com/example/tracemass/tracemass/nets/Marking" = some m.cls := hown
  replace hml : 1 = c.maxLocals := hml.symm
  refine own_step (fun tq kq => castTop (ef_rmMd m a) kq) ?_
  refine own_aloadN X hx hby d_38_9__0 rfl rfl (pc' := 1) rfl ?_
  refine own_getF X hx hby hZ hown (host := "") (Or.inl (own_w hw 36 rfl)) Via.refl eT F d_38_9__1 (pc' := 4) rfl ?_
  intro T1 X1 e1
  exact own_retI X1 hx hby fin hret d_38_9__4 (by decide) (by decide) ⟨rfl, rfl, e1⟩
theorem ef_rmCT (m : MethodId) (x0 : Addr) (x1 : Addr) : entryFrame m #[(.ref x0), (.ref x1)] 6 = mkF m 0 #[.val (.ref x0), .val (.ref x1), .unset, .unset, .unset, .unset] [] := by first | (simp [entryFrame, mkF, argsToLocals, Value.category]; done) | rfl
theorem pn_com_example_tracemass_tracemass_qstates_SilentPath : plainName "com/example/tracemass/tracemass/qstates/SilentPath" = true := by first | (simp [plainName, overriddenIn]; done) | decide +kernel
theorem d_86_6__0 : decode prog_86_method_6_code 0 = .ok (.lconst 0, 1) := by decide +kernel
theorem d_86_6__1 : decode prog_86_method_6_code 1 = .ok (.lstore_n 2, 1) := by decide +kernel
theorem d_86_6__2 : decode prog_86_method_6_code 2 = .ok (.iconst 0, 1) := by decide +kernel
theorem d_86_6__3 : decode prog_86_method_6_code 3 = .ok (.istore 4, 2) := by decide +kernel
theorem d_86_6__5 : decode prog_86_method_6_code 5 = .ok (.iload 4, 2) := by decide +kernel
theorem d_86_6__7 : decode prog_86_method_6_code 7 = .ok (.aload_n 1, 1) := by decide +kernel
theorem d_86_6__8 : decode prog_86_method_6_code 8 = .ok (.invokevirtual 107, 3) := by decide +kernel
theorem pd___I : parseMethodDescriptor "()I" = some ⟨[], some .int⟩ := by decide +kernel
theorem d_86_6__11 : decode prog_86_method_6_code 11 = .ok (.if_icmp .ge 47, 3) := by decide +kernel
theorem d_86_6__58 : decode prog_86_method_6_code 58 = .ok (.lload_n 2, 1) := by decide +kernel
theorem d_86_6__59 : decode prog_86_method_6_code 59 = .ok (.lreturn, 1) := by decide +kernel
theorem d_86_6__14 : decode prog_86_method_6_code 14 = .ok (.aload_n 1, 1) := by decide +kernel
theorem d_86_6__15 : decode prog_86_method_6_code 15 = .ok (.iload 4, 2) := by decide +kernel
theorem d_86_6__17 : decode prog_86_method_6_code 17 = .ok (.invokevirtual 110, 3) := by decide +kernel
theorem pd__I_I : parseMethodDescriptor "(I)I" = some ⟨[.int], some .int⟩ := by decide +kernel
theorem d_86_6__20 : decode prog_86_method_6_code 20 = .ok (.istore 5, 2) := by decide +kernel
theorem d_86_6__22 : decode prog_86_method_6_code 22 = .ok (.iload 5, 2) := by decide +kernel
theorem d_86_6__24 : decode prog_86_method_6_code 24 = .ok (.aload_n 0, 1) := by decide +kernel
theorem d_86_6__25 : decode prog_86_method_6_code 25 = .ok (.getfield 45, 3) := by decide +kernel
theorem d_86_6__28 : decode prog_86_method_6_code 28 = .ok (.arraylength, 1) := by decide +kernel
theorem d_86_6__29 : decode prog_86_method_6_code 29 = .ok (.if_icmp .ge 23, 3) := by decide +kernel
theorem d_86_6__32 : decode prog_86_method_6_code 32 = .ok (.aload_n 0, 1) := by decide +kernel
theorem d_86_6__33 : decode prog_86_method_6_code 33 = .ok (.getfield 45, 3) := by decide +kernel
theorem d_86_6__36 : decode prog_86_method_6_code 36 = .ok (.iload 5, 2) := by decide +kernel
theorem d_86_6__38 : decode prog_86_method_6_code 38 = .ok (.baload, 1) := by decide +kernel
theorem d_86_6__39 : decode prog_86_method_6_code 39 = .ok (.ifCond .eq 13, 3) := by decide +kernel
theorem d_86_6__42 : decode prog_86_method_6_code 42 = .ok (.lload_n 2, 1) := by decide +kernel
theorem d_86_6__43 : decode prog_86_method_6_code 43 = .ok (.aload_n 1, 1) := by decide +kernel
theorem d_86_6__44 : decode prog_86_method_6_code 44 = .ok (.iload 4, 2) := by decide +kernel
theorem d_86_6__46 : decode prog_86_method_6_code 46 = .ok (.invokevirtual 113, 3) := by decide +kernel
theorem d_86_6__49 : decode prog_86_method_6_code 49 = .ok (.i2l, 1) := by decide +kernel
theorem d_86_6__50 : decode prog_86_method_6_code 50 = .ok (.ladd, 1) := by decide +kernel
theorem d_86_6__51 : decode prog_86_method_6_code 51 = .ok (.lstore_n 2, 1) := by decide +kernel
theorem d_86_6__52 : decode prog_86_method_6_code 52 = .ok (.iinc 4 1, 3) := by decide +kernel
theorem d_86_6__55 : decode prog_86_method_6_code 55 = .ok (.goto (-50), 3) := by decide +kernel
set_option maxRecDepth 65536 in
set_option maxHeartbeats 40000000 in
theorem rmCT (l : Launch) (Z : State) (a0 : Array Value) (hw : ∀ d ∈ tables_1, d.before a0 Z = true) (a cp : Addr) (mk ct : Addr) (mv : Value) (mc : Int32) (vs : List Value) (x y : Int32) (h0 : Heap) (Fp : Fld Z h0 a "com/example/tracemass/tracemass/qstates/SilentPath" "compared" "[Z" (.ref cp)) (Vp : AV Z h0 cp .boolean [.int 1, .int 1]) (Em : Exa Z h0 mk "com/example/tracemass/tracemass/nets/Marking") (Fm : Fld Z h0 mk "com/example/tracemass/tracemass/nets/Marking" "marked" "[I" mv) (Fc : Fld Z h0 mk "com/example/tracemass/tracemass/nets/Marking" "counts" "[I" (.ref ct)) (Fk : Fld Z h0 mk "com/example/tracemass/tracemass/nets/Marking" "markedCount" "I" (.int mc)) (Vm : AV Z h0 ct .int vs) (hf : own_fm mv mc vs x y) : Con l Z (⟨"com/example/tracemass/tracemass/qstates/SilentPath", "comparedTotal", "(Lcom/example/tracemass/tracemass/nets/Marking;)J"⟩ : MethodName) prog_86_method_6_code 6 (some .long) [] ({ frames := 1, cells := 0, slots := 0, locals := 20 } : Room) #[(.ref a), (.ref mk)] h0 (fun v h L => v = some (.long (own_tot x y)) ∧ L = [] ∧ h = h0) := by
  refine Con.of (plainFor_of_name pn_com_example_tracemass_tracemass_qstates_SilentPath) ?_
  intro p e s m below meth c T X hx hby hml hown hnm hret eT hZ hsh Φ fin
  replace hown : s.vm.findClass "com/example/tracemass/tracemass/qstates/SilentPath" = some m.cls := hown
  replace hml : 6 = c.maxLocals := hml.symm
  refine own_step (fun tq kq => castTop (ef_rmCT m a mk) kq) ?_
  rcases hf with ⟨hr, hc, rfl, rfl, rfl, rfl⟩ | ⟨rfl, rfl, rfl, h1, h2⟩ | ⟨rfl, rfl, rfl, h1, h2⟩ | ⟨rfl, rfl, rfl, h1, h2⟩
  · refine own_lconst X hx hby d_86_6__0 (v := (0 : Int64)) rfl (pc' := 1) rfl ?_
    refine own_lstoreN X hx hby d_86_6__1  (Ls' := #[.val (.ref a), .val (.ref mk), .val (.long (0 : Int64)), .second, .unset, .unset]) rfl (pc' := 2) rfl ?_
    refine own_iconst X hx hby d_86_6__2 (v := (0 : Int32)) rfl (pc' := 3) rfl ?_
    refine own_istore X hx hby d_86_6__3  (Ls' := #[.val (.ref a), .val (.ref mk), .val (.long (0 : Int64)), .second, .val (.int (0 : Int32)), .unset]) rfl (pc' := 5) rfl ?_
    refine own_iload X hx hby d_86_6__5 rfl (pc' := 7) rfl ?_
    refine own_aloadN X hx hby d_86_6__7 rfl rfl (pc' := 8) rfl ?_
    refine own_callV X hx hby hZ (by exact hml) hown (own_w hw 136 rfl) (own_w hw 137 rfl) (own_w hw 139 rfl) (own_w hw 138 rfl) (own_w hw 4 rfl) (own_w hw 140 rfl) (by decide) eT 1 (by decide) (by decide) (by decide) (by decide) (argsL := []) (rest := [(.int (0 : Int32))]) (lenOf pd___I rfl) rfl (Nat.le_of_eq rfl) Em (rmEn0 l Z a0 hw mk ct  h0 Fc Vm) d_86_6__8 (pc' := 11) rfl ?_
    intro v1 T1 L1 X1 hQ1
    obtain ⟨rfl, rfl, e1⟩ := hQ1
    rw [List.append_nil] at X1
    replace e1 : T1.heap = h0 := e1
    show GoP p e below Φ (T1.setTop (mkF m 11 #[.val (.ref a), .val (.ref mk), .val (.long (0 : Int64)), .second, .val (.int (0 : Int32)), .unset] [(.int (0 : Int32)), (.int (0 : Int32))]))
    refine own_icmpY X1 hx hby d_86_6__11 (flt (by decide)).2.1 (by decide) (pc' := 58) (by decide) ?_
    refine own_lloadN X1 hx hby d_86_6__58 rfl (pc' := 59) rfl ?_
    exact own_retJ X1 hx hby fin hret d_86_6__59 (by decide) (by decide) ⟨by rw [show own_tot 0 0 = 0 from by decide], rfl, e1⟩
  · refine own_lconst X hx hby d_86_6__0 (v := (0 : Int64)) rfl (pc' := 1) rfl ?_
    refine own_lstoreN X hx hby d_86_6__1  (Ls' := #[.val (.ref a), .val (.ref mk), .val (.long (0 : Int64)), .second, .unset, .unset]) rfl (pc' := 2) rfl ?_
    refine own_iconst X hx hby d_86_6__2 (v := (0 : Int32)) rfl (pc' := 3) rfl ?_
    refine own_istore X hx hby d_86_6__3  (Ls' := #[.val (.ref a), .val (.ref mk), .val (.long (0 : Int64)), .second, .val (.int (0 : Int32)), .unset]) rfl (pc' := 5) rfl ?_
    refine own_iload X hx hby d_86_6__5 rfl (pc' := 7) rfl ?_
    refine own_aloadN X hx hby d_86_6__7 rfl rfl (pc' := 8) rfl ?_
    refine own_callV X hx hby hZ (by exact hml) hown (own_w hw 136 rfl) (own_w hw 137 rfl) (own_w hw 139 rfl) (own_w hw 138 rfl) (own_w hw 4 rfl) (own_w hw 140 rfl) (by decide) eT 1 (by decide) (by decide) (by decide) (by decide) (argsL := []) (rest := [(.int (0 : Int32))]) (lenOf pd___I rfl) rfl (Nat.le_of_eq rfl) Em (rmEn2 l Z a0 hw mk ct x y h0 Fc Vm) d_86_6__8 (pc' := 11) rfl ?_
    intro v2 T2 L2 X2 hQ2
    obtain ⟨rfl, rfl, e2⟩ := hQ2
    rw [List.append_nil] at X2
    replace e2 : T2.heap = h0 := e2
    show GoP p e below Φ (T2.setTop (mkF m 11 #[.val (.ref a), .val (.ref mk), .val (.long (0 : Int64)), .second, .val (.int (0 : Int32)), .unset] [(.int (2 : Int32)), (.int (0 : Int32))]))
    refine own_icmpN X2 hx hby d_86_6__11 (tlt (by decide)).2.1 (pc' := 14) rfl ?_
    refine own_aloadN X2 hx hby d_86_6__14 rfl rfl (pc' := 15) rfl ?_
    refine own_iload X2 hx hby d_86_6__15 rfl (pc' := 17) rfl ?_
    refine own_callV X2 hx hby hZ (by exact hml) hown (own_w hw 141 rfl) (own_w hw 142 rfl) (own_w hw 144 rfl) (own_w hw 143 rfl) (own_w hw 4 rfl) (own_w hw 145 rfl) (by decide) e2 0 (by decide) (by decide) (by decide) (by decide) (argsL := [(.int (0 : Int32))]) (rest := []) (lenOf pd__I_I rfl) rfl (Nat.le_of_eq rfl) Em (rmEP l Z a0 hw mk (0 : Int32) h0 Fm) d_86_6__17 (pc' := 20) rfl ?_
    intro v3 T3 L3 X3 hQ3
    obtain ⟨rfl, rfl, e3⟩ := hQ3
    rw [List.append_nil] at X3
    replace e3 : T3.heap = h0 := e3
    show GoP p e below Φ (T3.setTop (mkF m 20 #[.val (.ref a), .val (.ref mk), .val (.long (0 : Int64)), .second, .val (.int (0 : Int32)), .unset] [(.int (0 : Int32))]))
    refine own_istore X3 hx hby d_86_6__20  (Ls' := #[.val (.ref a), .val (.ref mk), .val (.long (0 : Int64)), .second, .val (.int (0 : Int32)), .val (.int (0 : Int32))]) rfl (pc' := 22) rfl ?_
    refine own_iload X3 hx hby d_86_6__22 rfl (pc' := 24) rfl ?_
    refine own_aloadN X3 hx hby d_86_6__24 rfl rfl (pc' := 25) rfl ?_
    refine own_getF X3 hx hby hZ hown (host := "") (Or.inl (own_w hw 120 rfl)) Via.refl e3 Fp d_86_6__25 (pc' := 28) rfl ?_
    intro T4 X4 e4
    refine own_alen X4 hx hby hZ e4 (n := (2 : Int32)) Vp rfl d_86_6__28 (pc' := 29) rfl ?_
    refine own_icmpN X4 hx hby d_86_6__29 (tlt (by decide)).2.1 (pc' := 32) rfl ?_
    refine own_aloadN X4 hx hby d_86_6__32 rfl rfl (pc' := 33) rfl ?_
    refine own_getF X4 hx hby hZ hown (host := "") (Or.inl (own_w hw 120 rfl)) Via.refl e4 Fp d_86_6__33 (pc' := 36) rfl ?_
    intro T5 X5 e5
    refine own_iload X5 hx hby d_86_6__36 rfl (pc' := 38) rfl ?_
    refine own_baloadZ X5 hx hby hZ e5 Vp (by decide) (v := (.int (1 : Int32))) rfl d_86_6__38 (pc' := 39) rfl ?_
    refine own_ifN X5 hx hby d_86_6__39 ((if0 _ _).trans (feq (by decide)).1) (pc' := 42) rfl ?_
    refine own_lloadN X5 hx hby d_86_6__42 rfl (pc' := 43) rfl ?_
    refine own_aloadN X5 hx hby d_86_6__43 rfl rfl (pc' := 44) rfl ?_
    refine own_iload X5 hx hby d_86_6__44 rfl (pc' := 46) rfl ?_
    refine own_callV X5 hx hby hZ (by exact hml) hown (own_w hw 146 rfl) (own_w hw 147 rfl) (own_w hw 149 rfl) (own_w hw 148 rfl) (own_w hw 4 rfl) (own_w hw 150 rfl) (by decide) e5 2 (by decide) (by decide) (by decide) (by decide) (argsL := [(.int (0 : Int32))]) (rest := [(.long (0 : Int64))]) (lenOf pd__I_I rfl) rfl (Nat.le_of_eq rfl) Em (rmET0 l Z a0 hw mk ct x y h0 Fc Vm) d_86_6__46 (pc' := 49) rfl ?_
    intro v6 T6 L6 X6 hQ6
    obtain ⟨rfl, rfl, e6⟩ := hQ6
    rw [List.append_nil] at X6
    replace e6 : T6.heap = h0 := e6
    show GoP p e below Φ (T6.setTop (mkF m 49 #[.val (.ref a), .val (.ref mk), .val (.long (0 : Int64)), .second, .val (.int (0 : Int32)), .val (.int (0 : Int32))] [(.int x), (.long (0 : Int64))]))
    refine own_i2l X6 hx hby d_86_6__49 (pc' := 50) rfl ?_
    refine own_ladd X6 hx hby d_86_6__50 (pc' := 51) rfl ?_
    refine own_lstoreN X6 hx hby d_86_6__51  (Ls' := #[.val (.ref a), .val (.ref mk), .val (.long ((0 : Int64) + (x.toInt64))), .second, .val (.int (0 : Int32)), .val (.int (0 : Int32))]) rfl (pc' := 52) rfl ?_
    refine own_iinc X6 hx hby d_86_6__52 rfl (v := (1 : Int32)) rfl (Ls' := #[.val (.ref a), .val (.ref mk), .val (.long ((0 : Int64) + (x.toInt64))), .second, .val (.int (1 : Int32)), .val (.int (0 : Int32))]) rfl (pc' := 55) rfl ?_
    refine own_goto X6 hx hby d_86_6__55 (by decide) (pc' := 5) (by decide) ?_
    refine own_iload X6 hx hby d_86_6__5 rfl (pc' := 7) rfl ?_
    refine own_aloadN X6 hx hby d_86_6__7 rfl rfl (pc' := 8) rfl ?_
    refine own_callV X6 hx hby hZ (by exact hml) hown (own_w hw 136 rfl) (own_w hw 137 rfl) (own_w hw 139 rfl) (own_w hw 138 rfl) (own_w hw 4 rfl) (own_w hw 140 rfl) (by decide) e6 1 (by decide) (by decide) (by decide) (by decide) (argsL := []) (rest := [(.int (1 : Int32))]) (lenOf pd___I rfl) rfl (Nat.le_of_eq rfl) Em (rmEn2 l Z a0 hw mk ct x y h0 Fc Vm) d_86_6__8 (pc' := 11) rfl ?_
    intro v7 T7 L7 X7 hQ7
    obtain ⟨rfl, rfl, e7⟩ := hQ7
    rw [List.append_nil] at X7
    replace e7 : T7.heap = h0 := e7
    show GoP p e below Φ (T7.setTop (mkF m 11 #[.val (.ref a), .val (.ref mk), .val (.long ((0 : Int64) + (x.toInt64))), .second, .val (.int (1 : Int32)), .val (.int (0 : Int32))] [(.int (2 : Int32)), (.int (1 : Int32))]))
    refine own_icmpN X7 hx hby d_86_6__11 (tlt (by decide)).2.1 (pc' := 14) rfl ?_
    refine own_aloadN X7 hx hby d_86_6__14 rfl rfl (pc' := 15) rfl ?_
    refine own_iload X7 hx hby d_86_6__15 rfl (pc' := 17) rfl ?_
    refine own_callV X7 hx hby hZ (by exact hml) hown (own_w hw 141 rfl) (own_w hw 142 rfl) (own_w hw 144 rfl) (own_w hw 143 rfl) (own_w hw 4 rfl) (own_w hw 145 rfl) (by decide) e7 0 (by decide) (by decide) (by decide) (by decide) (argsL := [(.int (1 : Int32))]) (rest := []) (lenOf pd__I_I rfl) rfl (Nat.le_of_eq rfl) Em (rmEP l Z a0 hw mk (1 : Int32) h0 Fm) d_86_6__17 (pc' := 20) rfl ?_
    intro v8 T8 L8 X8 hQ8
    obtain ⟨rfl, rfl, e8⟩ := hQ8
    rw [List.append_nil] at X8
    replace e8 : T8.heap = h0 := e8
    show GoP p e below Φ (T8.setTop (mkF m 20 #[.val (.ref a), .val (.ref mk), .val (.long ((0 : Int64) + (x.toInt64))), .second, .val (.int (1 : Int32)), .val (.int (0 : Int32))] [(.int (1 : Int32))]))
    refine own_istore X8 hx hby d_86_6__20  (Ls' := #[.val (.ref a), .val (.ref mk), .val (.long ((0 : Int64) + (x.toInt64))), .second, .val (.int (1 : Int32)), .val (.int (1 : Int32))]) rfl (pc' := 22) rfl ?_
    refine own_iload X8 hx hby d_86_6__22 rfl (pc' := 24) rfl ?_
    refine own_aloadN X8 hx hby d_86_6__24 rfl rfl (pc' := 25) rfl ?_
    refine own_getF X8 hx hby hZ hown (host := "") (Or.inl (own_w hw 120 rfl)) Via.refl e8 Fp d_86_6__25 (pc' := 28) rfl ?_
    intro T9 X9 e9
    refine own_alen X9 hx hby hZ e9 (n := (2 : Int32)) Vp rfl d_86_6__28 (pc' := 29) rfl ?_
    refine own_icmpN X9 hx hby d_86_6__29 (tlt (by decide)).2.1 (pc' := 32) rfl ?_
    refine own_aloadN X9 hx hby d_86_6__32 rfl rfl (pc' := 33) rfl ?_
    refine own_getF X9 hx hby hZ hown (host := "") (Or.inl (own_w hw 120 rfl)) Via.refl e9 Fp d_86_6__33 (pc' := 36) rfl ?_
    intro T10 X10 e10
    refine own_iload X10 hx hby d_86_6__36 rfl (pc' := 38) rfl ?_
    refine own_baloadZ X10 hx hby hZ e10 Vp (by decide) (v := (.int (1 : Int32))) rfl d_86_6__38 (pc' := 39) rfl ?_
    refine own_ifN X10 hx hby d_86_6__39 ((if0 _ _).trans (feq (by decide)).1) (pc' := 42) rfl ?_
    refine own_lloadN X10 hx hby d_86_6__42 rfl (pc' := 43) rfl ?_
    refine own_aloadN X10 hx hby d_86_6__43 rfl rfl (pc' := 44) rfl ?_
    refine own_iload X10 hx hby d_86_6__44 rfl (pc' := 46) rfl ?_
    refine own_callV X10 hx hby hZ (by exact hml) hown (own_w hw 146 rfl) (own_w hw 147 rfl) (own_w hw 149 rfl) (own_w hw 148 rfl) (own_w hw 4 rfl) (own_w hw 150 rfl) (by decide) e10 2 (by decide) (by decide) (by decide) (by decide) (argsL := [(.int (1 : Int32))]) (rest := [(.long ((0 : Int64) + (x.toInt64)))]) (lenOf pd__I_I rfl) rfl (Nat.le_of_eq rfl) Em (rmET1 l Z a0 hw mk ct x y h0 Fc Vm) d_86_6__46 (pc' := 49) rfl ?_
    intro v11 T11 L11 X11 hQ11
    obtain ⟨rfl, rfl, e11⟩ := hQ11
    rw [List.append_nil] at X11
    replace e11 : T11.heap = h0 := e11
    show GoP p e below Φ (T11.setTop (mkF m 49 #[.val (.ref a), .val (.ref mk), .val (.long ((0 : Int64) + (x.toInt64))), .second, .val (.int (1 : Int32)), .val (.int (1 : Int32))] [(.int y), (.long ((0 : Int64) + (x.toInt64)))]))
    refine own_i2l X11 hx hby d_86_6__49 (pc' := 50) rfl ?_
    refine own_ladd X11 hx hby d_86_6__50 (pc' := 51) rfl ?_
    refine own_lstoreN X11 hx hby d_86_6__51  (Ls' := #[.val (.ref a), .val (.ref mk), .val (.long (((0 : Int64) + (x.toInt64)) + (y.toInt64))), .second, .val (.int (1 : Int32)), .val (.int (1 : Int32))]) rfl (pc' := 52) rfl ?_
    refine own_iinc X11 hx hby d_86_6__52 rfl (v := (1 : Int32)) rfl (Ls' := #[.val (.ref a), .val (.ref mk), .val (.long (((0 : Int64) + (x.toInt64)) + (y.toInt64))), .second, .val (.int (2 : Int32)), .val (.int (1 : Int32))]) rfl (pc' := 55) rfl ?_
    refine own_goto X11 hx hby d_86_6__55 (by decide) (pc' := 5) (by decide) ?_
    refine own_iload X11 hx hby d_86_6__5 rfl (pc' := 7) rfl ?_
    refine own_aloadN X11 hx hby d_86_6__7 rfl rfl (pc' := 8) rfl ?_
    refine own_callV X11 hx hby hZ (by exact hml) hown (own_w hw 136 rfl) (own_w hw 137 rfl) (own_w hw 139 rfl) (own_w hw 138 rfl) (own_w hw 4 rfl) (own_w hw 140 rfl) (by decide) e11 1 (by decide) (by decide) (by decide) (by decide) (argsL := []) (rest := [(.int (2 : Int32))]) (lenOf pd___I rfl) rfl (Nat.le_of_eq rfl) Em (rmEn2 l Z a0 hw mk ct x y h0 Fc Vm) d_86_6__8 (pc' := 11) rfl ?_
    intro v12 T12 L12 X12 hQ12
    obtain ⟨rfl, rfl, e12⟩ := hQ12
    rw [List.append_nil] at X12
    replace e12 : T12.heap = h0 := e12
    show GoP p e below Φ (T12.setTop (mkF m 11 #[.val (.ref a), .val (.ref mk), .val (.long (((0 : Int64) + (x.toInt64)) + (y.toInt64))), .second, .val (.int (2 : Int32)), .val (.int (1 : Int32))] [(.int (2 : Int32)), (.int (2 : Int32))]))
    refine own_icmpY X12 hx hby d_86_6__11 (flt (by decide)).2.1 (by decide) (pc' := 58) (by decide) ?_
    refine own_lloadN X12 hx hby d_86_6__58 rfl (pc' := 59) rfl ?_
    exact own_retJ X12 hx hby fin hret d_86_6__59 (by decide) (by decide) ⟨by rw [own_tz], rfl, e12⟩
  · refine own_lconst X hx hby d_86_6__0 (v := (0 : Int64)) rfl (pc' := 1) rfl ?_
    refine own_lstoreN X hx hby d_86_6__1  (Ls' := #[.val (.ref a), .val (.ref mk), .val (.long (0 : Int64)), .second, .unset, .unset]) rfl (pc' := 2) rfl ?_
    refine own_iconst X hx hby d_86_6__2 (v := (0 : Int32)) rfl (pc' := 3) rfl ?_
    refine own_istore X hx hby d_86_6__3  (Ls' := #[.val (.ref a), .val (.ref mk), .val (.long (0 : Int64)), .second, .val (.int (0 : Int32)), .unset]) rfl (pc' := 5) rfl ?_
    refine own_iload X hx hby d_86_6__5 rfl (pc' := 7) rfl ?_
    refine own_aloadN X hx hby d_86_6__7 rfl rfl (pc' := 8) rfl ?_
    refine own_callV X hx hby hZ (by exact hml) hown (own_w hw 136 rfl) (own_w hw 137 rfl) (own_w hw 139 rfl) (own_w hw 138 rfl) (own_w hw 4 rfl) (own_w hw 140 rfl) (by decide) eT 1 (by decide) (by decide) (by decide) (by decide) (argsL := []) (rest := [(.int (0 : Int32))]) (lenOf pd___I rfl) rfl (Nat.le_of_eq rfl) Em (rmEn2 l Z a0 hw mk ct x y h0 Fc Vm) d_86_6__8 (pc' := 11) rfl ?_
    intro v13 T13 L13 X13 hQ13
    obtain ⟨rfl, rfl, e13⟩ := hQ13
    rw [List.append_nil] at X13
    replace e13 : T13.heap = h0 := e13
    show GoP p e below Φ (T13.setTop (mkF m 11 #[.val (.ref a), .val (.ref mk), .val (.long (0 : Int64)), .second, .val (.int (0 : Int32)), .unset] [(.int (2 : Int32)), (.int (0 : Int32))]))
    refine own_icmpN X13 hx hby d_86_6__11 (tlt (by decide)).2.1 (pc' := 14) rfl ?_
    refine own_aloadN X13 hx hby d_86_6__14 rfl rfl (pc' := 15) rfl ?_
    refine own_iload X13 hx hby d_86_6__15 rfl (pc' := 17) rfl ?_
    refine own_callV X13 hx hby hZ (by exact hml) hown (own_w hw 141 rfl) (own_w hw 142 rfl) (own_w hw 144 rfl) (own_w hw 143 rfl) (own_w hw 4 rfl) (own_w hw 145 rfl) (by decide) e13 0 (by decide) (by decide) (by decide) (by decide) (argsL := [(.int (0 : Int32))]) (rest := []) (lenOf pd__I_I rfl) rfl (Nat.le_of_eq rfl) Em (rmEP l Z a0 hw mk (0 : Int32) h0 Fm) d_86_6__17 (pc' := 20) rfl ?_
    intro v14 T14 L14 X14 hQ14
    obtain ⟨rfl, rfl, e14⟩ := hQ14
    rw [List.append_nil] at X14
    replace e14 : T14.heap = h0 := e14
    show GoP p e below Φ (T14.setTop (mkF m 20 #[.val (.ref a), .val (.ref mk), .val (.long (0 : Int64)), .second, .val (.int (0 : Int32)), .unset] [(.int (0 : Int32))]))
    refine own_istore X14 hx hby d_86_6__20  (Ls' := #[.val (.ref a), .val (.ref mk), .val (.long (0 : Int64)), .second, .val (.int (0 : Int32)), .val (.int (0 : Int32))]) rfl (pc' := 22) rfl ?_
    refine own_iload X14 hx hby d_86_6__22 rfl (pc' := 24) rfl ?_
    refine own_aloadN X14 hx hby d_86_6__24 rfl rfl (pc' := 25) rfl ?_
    refine own_getF X14 hx hby hZ hown (host := "") (Or.inl (own_w hw 120 rfl)) Via.refl e14 Fp d_86_6__25 (pc' := 28) rfl ?_
    intro T15 X15 e15
    refine own_alen X15 hx hby hZ e15 (n := (2 : Int32)) Vp rfl d_86_6__28 (pc' := 29) rfl ?_
    refine own_icmpN X15 hx hby d_86_6__29 (tlt (by decide)).2.1 (pc' := 32) rfl ?_
    refine own_aloadN X15 hx hby d_86_6__32 rfl rfl (pc' := 33) rfl ?_
    refine own_getF X15 hx hby hZ hown (host := "") (Or.inl (own_w hw 120 rfl)) Via.refl e15 Fp d_86_6__33 (pc' := 36) rfl ?_
    intro T16 X16 e16
    refine own_iload X16 hx hby d_86_6__36 rfl (pc' := 38) rfl ?_
    refine own_baloadZ X16 hx hby hZ e16 Vp (by decide) (v := (.int (1 : Int32))) rfl d_86_6__38 (pc' := 39) rfl ?_
    refine own_ifN X16 hx hby d_86_6__39 ((if0 _ _).trans (feq (by decide)).1) (pc' := 42) rfl ?_
    refine own_lloadN X16 hx hby d_86_6__42 rfl (pc' := 43) rfl ?_
    refine own_aloadN X16 hx hby d_86_6__43 rfl rfl (pc' := 44) rfl ?_
    refine own_iload X16 hx hby d_86_6__44 rfl (pc' := 46) rfl ?_
    refine own_callV X16 hx hby hZ (by exact hml) hown (own_w hw 146 rfl) (own_w hw 147 rfl) (own_w hw 149 rfl) (own_w hw 148 rfl) (own_w hw 4 rfl) (own_w hw 150 rfl) (by decide) e16 2 (by decide) (by decide) (by decide) (by decide) (argsL := [(.int (0 : Int32))]) (rest := [(.long (0 : Int64))]) (lenOf pd__I_I rfl) rfl (Nat.le_of_eq rfl) Em (rmET0 l Z a0 hw mk ct x y h0 Fc Vm) d_86_6__46 (pc' := 49) rfl ?_
    intro v17 T17 L17 X17 hQ17
    obtain ⟨rfl, rfl, e17⟩ := hQ17
    rw [List.append_nil] at X17
    replace e17 : T17.heap = h0 := e17
    show GoP p e below Φ (T17.setTop (mkF m 49 #[.val (.ref a), .val (.ref mk), .val (.long (0 : Int64)), .second, .val (.int (0 : Int32)), .val (.int (0 : Int32))] [(.int x), (.long (0 : Int64))]))
    refine own_i2l X17 hx hby d_86_6__49 (pc' := 50) rfl ?_
    refine own_ladd X17 hx hby d_86_6__50 (pc' := 51) rfl ?_
    refine own_lstoreN X17 hx hby d_86_6__51  (Ls' := #[.val (.ref a), .val (.ref mk), .val (.long ((0 : Int64) + (x.toInt64))), .second, .val (.int (0 : Int32)), .val (.int (0 : Int32))]) rfl (pc' := 52) rfl ?_
    refine own_iinc X17 hx hby d_86_6__52 rfl (v := (1 : Int32)) rfl (Ls' := #[.val (.ref a), .val (.ref mk), .val (.long ((0 : Int64) + (x.toInt64))), .second, .val (.int (1 : Int32)), .val (.int (0 : Int32))]) rfl (pc' := 55) rfl ?_
    refine own_goto X17 hx hby d_86_6__55 (by decide) (pc' := 5) (by decide) ?_
    refine own_iload X17 hx hby d_86_6__5 rfl (pc' := 7) rfl ?_
    refine own_aloadN X17 hx hby d_86_6__7 rfl rfl (pc' := 8) rfl ?_
    refine own_callV X17 hx hby hZ (by exact hml) hown (own_w hw 136 rfl) (own_w hw 137 rfl) (own_w hw 139 rfl) (own_w hw 138 rfl) (own_w hw 4 rfl) (own_w hw 140 rfl) (by decide) e17 1 (by decide) (by decide) (by decide) (by decide) (argsL := []) (rest := [(.int (1 : Int32))]) (lenOf pd___I rfl) rfl (Nat.le_of_eq rfl) Em (rmEn2 l Z a0 hw mk ct x y h0 Fc Vm) d_86_6__8 (pc' := 11) rfl ?_
    intro v18 T18 L18 X18 hQ18
    obtain ⟨rfl, rfl, e18⟩ := hQ18
    rw [List.append_nil] at X18
    replace e18 : T18.heap = h0 := e18
    show GoP p e below Φ (T18.setTop (mkF m 11 #[.val (.ref a), .val (.ref mk), .val (.long ((0 : Int64) + (x.toInt64))), .second, .val (.int (1 : Int32)), .val (.int (0 : Int32))] [(.int (2 : Int32)), (.int (1 : Int32))]))
    refine own_icmpN X18 hx hby d_86_6__11 (tlt (by decide)).2.1 (pc' := 14) rfl ?_
    refine own_aloadN X18 hx hby d_86_6__14 rfl rfl (pc' := 15) rfl ?_
    refine own_iload X18 hx hby d_86_6__15 rfl (pc' := 17) rfl ?_
    refine own_callV X18 hx hby hZ (by exact hml) hown (own_w hw 141 rfl) (own_w hw 142 rfl) (own_w hw 144 rfl) (own_w hw 143 rfl) (own_w hw 4 rfl) (own_w hw 145 rfl) (by decide) e18 0 (by decide) (by decide) (by decide) (by decide) (argsL := [(.int (1 : Int32))]) (rest := []) (lenOf pd__I_I rfl) rfl (Nat.le_of_eq rfl) Em (rmEP l Z a0 hw mk (1 : Int32) h0 Fm) d_86_6__17 (pc' := 20) rfl ?_
    intro v19 T19 L19 X19 hQ19
    obtain ⟨rfl, rfl, e19⟩ := hQ19
    rw [List.append_nil] at X19
    replace e19 : T19.heap = h0 := e19
    show GoP p e below Φ (T19.setTop (mkF m 20 #[.val (.ref a), .val (.ref mk), .val (.long ((0 : Int64) + (x.toInt64))), .second, .val (.int (1 : Int32)), .val (.int (0 : Int32))] [(.int (1 : Int32))]))
    refine own_istore X19 hx hby d_86_6__20  (Ls' := #[.val (.ref a), .val (.ref mk), .val (.long ((0 : Int64) + (x.toInt64))), .second, .val (.int (1 : Int32)), .val (.int (1 : Int32))]) rfl (pc' := 22) rfl ?_
    refine own_iload X19 hx hby d_86_6__22 rfl (pc' := 24) rfl ?_
    refine own_aloadN X19 hx hby d_86_6__24 rfl rfl (pc' := 25) rfl ?_
    refine own_getF X19 hx hby hZ hown (host := "") (Or.inl (own_w hw 120 rfl)) Via.refl e19 Fp d_86_6__25 (pc' := 28) rfl ?_
    intro T20 X20 e20
    refine own_alen X20 hx hby hZ e20 (n := (2 : Int32)) Vp rfl d_86_6__28 (pc' := 29) rfl ?_
    refine own_icmpN X20 hx hby d_86_6__29 (tlt (by decide)).2.1 (pc' := 32) rfl ?_
    refine own_aloadN X20 hx hby d_86_6__32 rfl rfl (pc' := 33) rfl ?_
    refine own_getF X20 hx hby hZ hown (host := "") (Or.inl (own_w hw 120 rfl)) Via.refl e20 Fp d_86_6__33 (pc' := 36) rfl ?_
    intro T21 X21 e21
    refine own_iload X21 hx hby d_86_6__36 rfl (pc' := 38) rfl ?_
    refine own_baloadZ X21 hx hby hZ e21 Vp (by decide) (v := (.int (1 : Int32))) rfl d_86_6__38 (pc' := 39) rfl ?_
    refine own_ifN X21 hx hby d_86_6__39 ((if0 _ _).trans (feq (by decide)).1) (pc' := 42) rfl ?_
    refine own_lloadN X21 hx hby d_86_6__42 rfl (pc' := 43) rfl ?_
    refine own_aloadN X21 hx hby d_86_6__43 rfl rfl (pc' := 44) rfl ?_
    refine own_iload X21 hx hby d_86_6__44 rfl (pc' := 46) rfl ?_
    refine own_callV X21 hx hby hZ (by exact hml) hown (own_w hw 146 rfl) (own_w hw 147 rfl) (own_w hw 149 rfl) (own_w hw 148 rfl) (own_w hw 4 rfl) (own_w hw 150 rfl) (by decide) e21 2 (by decide) (by decide) (by decide) (by decide) (argsL := [(.int (1 : Int32))]) (rest := [(.long ((0 : Int64) + (x.toInt64)))]) (lenOf pd__I_I rfl) rfl (Nat.le_of_eq rfl) Em (rmET1 l Z a0 hw mk ct x y h0 Fc Vm) d_86_6__46 (pc' := 49) rfl ?_
    intro v22 T22 L22 X22 hQ22
    obtain ⟨rfl, rfl, e22⟩ := hQ22
    rw [List.append_nil] at X22
    replace e22 : T22.heap = h0 := e22
    show GoP p e below Φ (T22.setTop (mkF m 49 #[.val (.ref a), .val (.ref mk), .val (.long ((0 : Int64) + (x.toInt64))), .second, .val (.int (1 : Int32)), .val (.int (1 : Int32))] [(.int y), (.long ((0 : Int64) + (x.toInt64)))]))
    refine own_i2l X22 hx hby d_86_6__49 (pc' := 50) rfl ?_
    refine own_ladd X22 hx hby d_86_6__50 (pc' := 51) rfl ?_
    refine own_lstoreN X22 hx hby d_86_6__51  (Ls' := #[.val (.ref a), .val (.ref mk), .val (.long (((0 : Int64) + (x.toInt64)) + (y.toInt64))), .second, .val (.int (1 : Int32)), .val (.int (1 : Int32))]) rfl (pc' := 52) rfl ?_
    refine own_iinc X22 hx hby d_86_6__52 rfl (v := (1 : Int32)) rfl (Ls' := #[.val (.ref a), .val (.ref mk), .val (.long (((0 : Int64) + (x.toInt64)) + (y.toInt64))), .second, .val (.int (2 : Int32)), .val (.int (1 : Int32))]) rfl (pc' := 55) rfl ?_
    refine own_goto X22 hx hby d_86_6__55 (by decide) (pc' := 5) (by decide) ?_
    refine own_iload X22 hx hby d_86_6__5 rfl (pc' := 7) rfl ?_
    refine own_aloadN X22 hx hby d_86_6__7 rfl rfl (pc' := 8) rfl ?_
    refine own_callV X22 hx hby hZ (by exact hml) hown (own_w hw 136 rfl) (own_w hw 137 rfl) (own_w hw 139 rfl) (own_w hw 138 rfl) (own_w hw 4 rfl) (own_w hw 140 rfl) (by decide) e22 1 (by decide) (by decide) (by decide) (by decide) (argsL := []) (rest := [(.int (2 : Int32))]) (lenOf pd___I rfl) rfl (Nat.le_of_eq rfl) Em (rmEn2 l Z a0 hw mk ct x y h0 Fc Vm) d_86_6__8 (pc' := 11) rfl ?_
    intro v23 T23 L23 X23 hQ23
    obtain ⟨rfl, rfl, e23⟩ := hQ23
    rw [List.append_nil] at X23
    replace e23 : T23.heap = h0 := e23
    show GoP p e below Φ (T23.setTop (mkF m 11 #[.val (.ref a), .val (.ref mk), .val (.long (((0 : Int64) + (x.toInt64)) + (y.toInt64))), .second, .val (.int (2 : Int32)), .val (.int (1 : Int32))] [(.int (2 : Int32)), (.int (2 : Int32))]))
    refine own_icmpY X23 hx hby d_86_6__11 (flt (by decide)).2.1 (by decide) (pc' := 58) (by decide) ?_
    refine own_lloadN X23 hx hby d_86_6__58 rfl (pc' := 59) rfl ?_
    exact own_retJ X23 hx hby fin hret d_86_6__59 (by decide) (by decide) ⟨by rw [own_tz], rfl, e23⟩
  · refine own_lconst X hx hby d_86_6__0 (v := (0 : Int64)) rfl (pc' := 1) rfl ?_
    refine own_lstoreN X hx hby d_86_6__1  (Ls' := #[.val (.ref a), .val (.ref mk), .val (.long (0 : Int64)), .second, .unset, .unset]) rfl (pc' := 2) rfl ?_
    refine own_iconst X hx hby d_86_6__2 (v := (0 : Int32)) rfl (pc' := 3) rfl ?_
    refine own_istore X hx hby d_86_6__3  (Ls' := #[.val (.ref a), .val (.ref mk), .val (.long (0 : Int64)), .second, .val (.int (0 : Int32)), .unset]) rfl (pc' := 5) rfl ?_
    refine own_iload X hx hby d_86_6__5 rfl (pc' := 7) rfl ?_
    refine own_aloadN X hx hby d_86_6__7 rfl rfl (pc' := 8) rfl ?_
    refine own_callV X hx hby hZ (by exact hml) hown (own_w hw 136 rfl) (own_w hw 137 rfl) (own_w hw 139 rfl) (own_w hw 138 rfl) (own_w hw 4 rfl) (own_w hw 140 rfl) (by decide) eT 1 (by decide) (by decide) (by decide) (by decide) (argsL := []) (rest := [(.int (0 : Int32))]) (lenOf pd___I rfl) rfl (Nat.le_of_eq rfl) Em (rmEn2 l Z a0 hw mk ct x y h0 Fc Vm) d_86_6__8 (pc' := 11) rfl ?_
    intro v24 T24 L24 X24 hQ24
    obtain ⟨rfl, rfl, e24⟩ := hQ24
    rw [List.append_nil] at X24
    replace e24 : T24.heap = h0 := e24
    show GoP p e below Φ (T24.setTop (mkF m 11 #[.val (.ref a), .val (.ref mk), .val (.long (0 : Int64)), .second, .val (.int (0 : Int32)), .unset] [(.int (2 : Int32)), (.int (0 : Int32))]))
    refine own_icmpN X24 hx hby d_86_6__11 (tlt (by decide)).2.1 (pc' := 14) rfl ?_
    refine own_aloadN X24 hx hby d_86_6__14 rfl rfl (pc' := 15) rfl ?_
    refine own_iload X24 hx hby d_86_6__15 rfl (pc' := 17) rfl ?_
    refine own_callV X24 hx hby hZ (by exact hml) hown (own_w hw 141 rfl) (own_w hw 142 rfl) (own_w hw 144 rfl) (own_w hw 143 rfl) (own_w hw 4 rfl) (own_w hw 145 rfl) (by decide) e24 0 (by decide) (by decide) (by decide) (by decide) (argsL := [(.int (0 : Int32))]) (rest := []) (lenOf pd__I_I rfl) rfl (Nat.le_of_eq rfl) Em (rmEP l Z a0 hw mk (0 : Int32) h0 Fm) d_86_6__17 (pc' := 20) rfl ?_
    intro v25 T25 L25 X25 hQ25
    obtain ⟨rfl, rfl, e25⟩ := hQ25
    rw [List.append_nil] at X25
    replace e25 : T25.heap = h0 := e25
    show GoP p e below Φ (T25.setTop (mkF m 20 #[.val (.ref a), .val (.ref mk), .val (.long (0 : Int64)), .second, .val (.int (0 : Int32)), .unset] [(.int (0 : Int32))]))
    refine own_istore X25 hx hby d_86_6__20  (Ls' := #[.val (.ref a), .val (.ref mk), .val (.long (0 : Int64)), .second, .val (.int (0 : Int32)), .val (.int (0 : Int32))]) rfl (pc' := 22) rfl ?_
    refine own_iload X25 hx hby d_86_6__22 rfl (pc' := 24) rfl ?_
    refine own_aloadN X25 hx hby d_86_6__24 rfl rfl (pc' := 25) rfl ?_
    refine own_getF X25 hx hby hZ hown (host := "") (Or.inl (own_w hw 120 rfl)) Via.refl e25 Fp d_86_6__25 (pc' := 28) rfl ?_
    intro T26 X26 e26
    refine own_alen X26 hx hby hZ e26 (n := (2 : Int32)) Vp rfl d_86_6__28 (pc' := 29) rfl ?_
    refine own_icmpN X26 hx hby d_86_6__29 (tlt (by decide)).2.1 (pc' := 32) rfl ?_
    refine own_aloadN X26 hx hby d_86_6__32 rfl rfl (pc' := 33) rfl ?_
    refine own_getF X26 hx hby hZ hown (host := "") (Or.inl (own_w hw 120 rfl)) Via.refl e26 Fp d_86_6__33 (pc' := 36) rfl ?_
    intro T27 X27 e27
    refine own_iload X27 hx hby d_86_6__36 rfl (pc' := 38) rfl ?_
    refine own_baloadZ X27 hx hby hZ e27 Vp (by decide) (v := (.int (1 : Int32))) rfl d_86_6__38 (pc' := 39) rfl ?_
    refine own_ifN X27 hx hby d_86_6__39 ((if0 _ _).trans (feq (by decide)).1) (pc' := 42) rfl ?_
    refine own_lloadN X27 hx hby d_86_6__42 rfl (pc' := 43) rfl ?_
    refine own_aloadN X27 hx hby d_86_6__43 rfl rfl (pc' := 44) rfl ?_
    refine own_iload X27 hx hby d_86_6__44 rfl (pc' := 46) rfl ?_
    refine own_callV X27 hx hby hZ (by exact hml) hown (own_w hw 146 rfl) (own_w hw 147 rfl) (own_w hw 149 rfl) (own_w hw 148 rfl) (own_w hw 4 rfl) (own_w hw 150 rfl) (by decide) e27 2 (by decide) (by decide) (by decide) (by decide) (argsL := [(.int (0 : Int32))]) (rest := [(.long (0 : Int64))]) (lenOf pd__I_I rfl) rfl (Nat.le_of_eq rfl) Em (rmET0 l Z a0 hw mk ct x y h0 Fc Vm) d_86_6__46 (pc' := 49) rfl ?_
    intro v28 T28 L28 X28 hQ28
    obtain ⟨rfl, rfl, e28⟩ := hQ28
    rw [List.append_nil] at X28
    replace e28 : T28.heap = h0 := e28
    show GoP p e below Φ (T28.setTop (mkF m 49 #[.val (.ref a), .val (.ref mk), .val (.long (0 : Int64)), .second, .val (.int (0 : Int32)), .val (.int (0 : Int32))] [(.int x), (.long (0 : Int64))]))
    refine own_i2l X28 hx hby d_86_6__49 (pc' := 50) rfl ?_
    refine own_ladd X28 hx hby d_86_6__50 (pc' := 51) rfl ?_
    refine own_lstoreN X28 hx hby d_86_6__51  (Ls' := #[.val (.ref a), .val (.ref mk), .val (.long ((0 : Int64) + (x.toInt64))), .second, .val (.int (0 : Int32)), .val (.int (0 : Int32))]) rfl (pc' := 52) rfl ?_
    refine own_iinc X28 hx hby d_86_6__52 rfl (v := (1 : Int32)) rfl (Ls' := #[.val (.ref a), .val (.ref mk), .val (.long ((0 : Int64) + (x.toInt64))), .second, .val (.int (1 : Int32)), .val (.int (0 : Int32))]) rfl (pc' := 55) rfl ?_
    refine own_goto X28 hx hby d_86_6__55 (by decide) (pc' := 5) (by decide) ?_
    refine own_iload X28 hx hby d_86_6__5 rfl (pc' := 7) rfl ?_
    refine own_aloadN X28 hx hby d_86_6__7 rfl rfl (pc' := 8) rfl ?_
    refine own_callV X28 hx hby hZ (by exact hml) hown (own_w hw 136 rfl) (own_w hw 137 rfl) (own_w hw 139 rfl) (own_w hw 138 rfl) (own_w hw 4 rfl) (own_w hw 140 rfl) (by decide) e28 1 (by decide) (by decide) (by decide) (by decide) (argsL := []) (rest := [(.int (1 : Int32))]) (lenOf pd___I rfl) rfl (Nat.le_of_eq rfl) Em (rmEn2 l Z a0 hw mk ct x y h0 Fc Vm) d_86_6__8 (pc' := 11) rfl ?_
    intro v29 T29 L29 X29 hQ29
    obtain ⟨rfl, rfl, e29⟩ := hQ29
    rw [List.append_nil] at X29
    replace e29 : T29.heap = h0 := e29
    show GoP p e below Φ (T29.setTop (mkF m 11 #[.val (.ref a), .val (.ref mk), .val (.long ((0 : Int64) + (x.toInt64))), .second, .val (.int (1 : Int32)), .val (.int (0 : Int32))] [(.int (2 : Int32)), (.int (1 : Int32))]))
    refine own_icmpN X29 hx hby d_86_6__11 (tlt (by decide)).2.1 (pc' := 14) rfl ?_
    refine own_aloadN X29 hx hby d_86_6__14 rfl rfl (pc' := 15) rfl ?_
    refine own_iload X29 hx hby d_86_6__15 rfl (pc' := 17) rfl ?_
    refine own_callV X29 hx hby hZ (by exact hml) hown (own_w hw 141 rfl) (own_w hw 142 rfl) (own_w hw 144 rfl) (own_w hw 143 rfl) (own_w hw 4 rfl) (own_w hw 145 rfl) (by decide) e29 0 (by decide) (by decide) (by decide) (by decide) (argsL := [(.int (1 : Int32))]) (rest := []) (lenOf pd__I_I rfl) rfl (Nat.le_of_eq rfl) Em (rmEP l Z a0 hw mk (1 : Int32) h0 Fm) d_86_6__17 (pc' := 20) rfl ?_
    intro v30 T30 L30 X30 hQ30
    obtain ⟨rfl, rfl, e30⟩ := hQ30
    rw [List.append_nil] at X30
    replace e30 : T30.heap = h0 := e30
    show GoP p e below Φ (T30.setTop (mkF m 20 #[.val (.ref a), .val (.ref mk), .val (.long ((0 : Int64) + (x.toInt64))), .second, .val (.int (1 : Int32)), .val (.int (0 : Int32))] [(.int (1 : Int32))]))
    refine own_istore X30 hx hby d_86_6__20  (Ls' := #[.val (.ref a), .val (.ref mk), .val (.long ((0 : Int64) + (x.toInt64))), .second, .val (.int (1 : Int32)), .val (.int (1 : Int32))]) rfl (pc' := 22) rfl ?_
    refine own_iload X30 hx hby d_86_6__22 rfl (pc' := 24) rfl ?_
    refine own_aloadN X30 hx hby d_86_6__24 rfl rfl (pc' := 25) rfl ?_
    refine own_getF X30 hx hby hZ hown (host := "") (Or.inl (own_w hw 120 rfl)) Via.refl e30 Fp d_86_6__25 (pc' := 28) rfl ?_
    intro T31 X31 e31
    refine own_alen X31 hx hby hZ e31 (n := (2 : Int32)) Vp rfl d_86_6__28 (pc' := 29) rfl ?_
    refine own_icmpN X31 hx hby d_86_6__29 (tlt (by decide)).2.1 (pc' := 32) rfl ?_
    refine own_aloadN X31 hx hby d_86_6__32 rfl rfl (pc' := 33) rfl ?_
    refine own_getF X31 hx hby hZ hown (host := "") (Or.inl (own_w hw 120 rfl)) Via.refl e31 Fp d_86_6__33 (pc' := 36) rfl ?_
    intro T32 X32 e32
    refine own_iload X32 hx hby d_86_6__36 rfl (pc' := 38) rfl ?_
    refine own_baloadZ X32 hx hby hZ e32 Vp (by decide) (v := (.int (1 : Int32))) rfl d_86_6__38 (pc' := 39) rfl ?_
    refine own_ifN X32 hx hby d_86_6__39 ((if0 _ _).trans (feq (by decide)).1) (pc' := 42) rfl ?_
    refine own_lloadN X32 hx hby d_86_6__42 rfl (pc' := 43) rfl ?_
    refine own_aloadN X32 hx hby d_86_6__43 rfl rfl (pc' := 44) rfl ?_
    refine own_iload X32 hx hby d_86_6__44 rfl (pc' := 46) rfl ?_
    refine own_callV X32 hx hby hZ (by exact hml) hown (own_w hw 146 rfl) (own_w hw 147 rfl) (own_w hw 149 rfl) (own_w hw 148 rfl) (own_w hw 4 rfl) (own_w hw 150 rfl) (by decide) e32 2 (by decide) (by decide) (by decide) (by decide) (argsL := [(.int (1 : Int32))]) (rest := [(.long ((0 : Int64) + (x.toInt64)))]) (lenOf pd__I_I rfl) rfl (Nat.le_of_eq rfl) Em (rmET1 l Z a0 hw mk ct x y h0 Fc Vm) d_86_6__46 (pc' := 49) rfl ?_
    intro v33 T33 L33 X33 hQ33
    obtain ⟨rfl, rfl, e33⟩ := hQ33
    rw [List.append_nil] at X33
    replace e33 : T33.heap = h0 := e33
    show GoP p e below Φ (T33.setTop (mkF m 49 #[.val (.ref a), .val (.ref mk), .val (.long ((0 : Int64) + (x.toInt64))), .second, .val (.int (1 : Int32)), .val (.int (1 : Int32))] [(.int y), (.long ((0 : Int64) + (x.toInt64)))]))
    refine own_i2l X33 hx hby d_86_6__49 (pc' := 50) rfl ?_
    refine own_ladd X33 hx hby d_86_6__50 (pc' := 51) rfl ?_
    refine own_lstoreN X33 hx hby d_86_6__51  (Ls' := #[.val (.ref a), .val (.ref mk), .val (.long (((0 : Int64) + (x.toInt64)) + (y.toInt64))), .second, .val (.int (1 : Int32)), .val (.int (1 : Int32))]) rfl (pc' := 52) rfl ?_
    refine own_iinc X33 hx hby d_86_6__52 rfl (v := (1 : Int32)) rfl (Ls' := #[.val (.ref a), .val (.ref mk), .val (.long (((0 : Int64) + (x.toInt64)) + (y.toInt64))), .second, .val (.int (2 : Int32)), .val (.int (1 : Int32))]) rfl (pc' := 55) rfl ?_
    refine own_goto X33 hx hby d_86_6__55 (by decide) (pc' := 5) (by decide) ?_
    refine own_iload X33 hx hby d_86_6__5 rfl (pc' := 7) rfl ?_
    refine own_aloadN X33 hx hby d_86_6__7 rfl rfl (pc' := 8) rfl ?_
    refine own_callV X33 hx hby hZ (by exact hml) hown (own_w hw 136 rfl) (own_w hw 137 rfl) (own_w hw 139 rfl) (own_w hw 138 rfl) (own_w hw 4 rfl) (own_w hw 140 rfl) (by decide) e33 1 (by decide) (by decide) (by decide) (by decide) (argsL := []) (rest := [(.int (2 : Int32))]) (lenOf pd___I rfl) rfl (Nat.le_of_eq rfl) Em (rmEn2 l Z a0 hw mk ct x y h0 Fc Vm) d_86_6__8 (pc' := 11) rfl ?_
    intro v34 T34 L34 X34 hQ34
    obtain ⟨rfl, rfl, e34⟩ := hQ34
    rw [List.append_nil] at X34
    replace e34 : T34.heap = h0 := e34
    show GoP p e below Φ (T34.setTop (mkF m 11 #[.val (.ref a), .val (.ref mk), .val (.long (((0 : Int64) + (x.toInt64)) + (y.toInt64))), .second, .val (.int (2 : Int32)), .val (.int (1 : Int32))] [(.int (2 : Int32)), (.int (2 : Int32))]))
    refine own_icmpY X34 hx hby d_86_6__11 (flt (by decide)).2.1 (by decide) (pc' := 58) (by decide) ?_
    refine own_lloadN X34 hx hby d_86_6__58 rfl (pc' := 59) rfl ?_
    exact own_retJ X34 hx hby fin hret d_86_6__59 (by decide) (by decide) ⟨by rw [own_tz], rfl, e34⟩
theorem ef_rmRd (m : MethodId) (x0 : Addr) (x1 : Addr) (x2 : Addr) (x3 : Int32) : entryFrame m #[(.ref x0), (.ref x1), (.ref x2), (.int x3)] 7 = mkF m 0 #[.val (.ref x0), .val (.ref x1), .val (.ref x2), .val (.int x3), .unset, .unset, .unset] [] := by first | (simp [entryFrame, mkF, argsToLocals, Value.category]; done) | rfl
theorem pn_com_example_tracemass_tracemass_qstates_SilentPath_Pairs : plainName "com/example/tracemass/tracemass/qstates/SilentPath$Pairs" = true := by first | (simp [plainName, overriddenIn]; done) | decide +kernel
theorem d_87_2__0 : decode prog_87_method_2_code 0 = .ok (.iconst 2, 1) := by decide +kernel
theorem d_87_2__1 : decode prog_87_method_2_code 1 = .ok (.aload_n 1, 1) := by decide +kernel
theorem d_87_2__2 : decode prog_87_method_2_code 2 = .ok (.invokevirtual 13, 3) := by decide +kernel
theorem d_87_2__5 : decode prog_87_method_2_code 5 = .ok (.iload_n 3, 1) := by decide +kernel
theorem d_87_2__6 : decode prog_87_method_2_code 6 = .ok (.invokestatic 19, 3) := by decide +kernel
theorem pd__II_I : parseMethodDescriptor "(II)I" = some ⟨[.int, .int], some .int⟩ := by decide +kernel
theorem d_87_2__9 : decode prog_87_method_2_code 9 = .ok (.imul, 1) := by decide +kernel
theorem d_87_2__10 : decode prog_87_method_2_code 10 = .ok (.istore 4, 2) := by decide +kernel
theorem d_87_2__12 : decode prog_87_method_2_code 12 = .ok (.aload_n 0, 1) := by decide +kernel
theorem d_87_2__13 : decode prog_87_method_2_code 13 = .ok (.getfield 7, 3) := by decide +kernel
theorem d_87_2__16 : decode prog_87_method_2_code 16 = .ok (.arraylength, 1) := by decide +kernel
theorem d_87_2__17 : decode prog_87_method_2_code 17 = .ok (.iload 4, 2) := by decide +kernel
theorem d_87_2__19 : decode prog_87_method_2_code 19 = .ok (.if_icmp .ge 21, 3) := by decide +kernel
theorem d_87_2__40 : decode prog_87_method_2_code 40 = .ok (.aload_n 0, 1) := by decide +kernel
theorem d_87_2__41 : decode prog_87_method_2_code 41 = .ok (.iconst 0, 1) := by decide +kernel
theorem d_87_2__42 : decode prog_87_method_2_code 42 = .ok (.putfield 28, 3) := by decide +kernel
theorem d_87_2__45 : decode prog_87_method_2_code 45 = .ok (.iconst 0, 1) := by decide +kernel
theorem d_87_2__46 : decode prog_87_method_2_code 46 = .ok (.istore 5, 2) := by decide +kernel
theorem d_87_2__48 : decode prog_87_method_2_code 48 = .ok (.iload 5, 2) := by decide +kernel
theorem d_87_2__50 : decode prog_87_method_2_code 50 = .ok (.aload_n 1, 1) := by decide +kernel
theorem d_87_2__51 : decode prog_87_method_2_code 51 = .ok (.invokevirtual 32, 3) := by decide +kernel
theorem d_87_2__54 : decode prog_87_method_2_code 54 = .ok (.if_icmp .ge 80, 3) := by decide +kernel
theorem d_87_2__134 : decode prog_87_method_2_code 134 = .ok (.return_, 1) := by decide +kernel
theorem d_87_2__22 : decode prog_87_method_2_code 22 = .ok (.aload_n 0, 1) := by decide +kernel
theorem d_87_2__23 : decode prog_87_method_2_code 23 = .ok (.iload 4, 2) := by decide +kernel
theorem d_87_2__25 : decode prog_87_method_2_code 25 = .ok (.iconst 2, 1) := by decide +kernel
theorem d_87_2__26 : decode prog_87_method_2_code 26 = .ok (.aload_n 0, 1) := by decide +kernel
theorem d_87_2__27 : decode prog_87_method_2_code 27 = .ok (.getfield 7, 3) := by decide +kernel
theorem d_87_2__30 : decode prog_87_method_2_code 30 = .ok (.arraylength, 1) := by decide +kernel
theorem d_87_2__31 : decode prog_87_method_2_code 31 = .ok (.imul, 1) := by decide +kernel
theorem d_87_2__32 : decode prog_87_method_2_code 32 = .ok (.invokestatic 25, 3) := by decide +kernel
theorem d_87_2__35 : decode prog_87_method_2_code 35 = .ok (.newarray .int, 2) := by decide +kernel
theorem d_87_2__37 : decode prog_87_method_2_code 37 = .ok (.putfield 7, 3) := by decide +kernel
theorem d_87_2__57 : decode prog_87_method_2_code 57 = .ok (.aload_n 1, 1) := by decide +kernel
theorem d_87_2__58 : decode prog_87_method_2_code 58 = .ok (.iload 5, 2) := by decide +kernel
theorem d_87_2__60 : decode prog_87_method_2_code 60 = .ok (.invokevirtual 35, 3) := by decide +kernel
theorem d_87_2__63 : decode prog_87_method_2_code 63 = .ok (.istore 6, 2) := by decide +kernel
theorem d_87_2__65 : decode prog_87_method_2_code 65 = .ok (.aload_n 1, 1) := by decide +kernel
theorem d_87_2__66 : decode prog_87_method_2_code 66 = .ok (.iload 5, 2) := by decide +kernel
theorem d_87_2__68 : decode prog_87_method_2_code 68 = .ok (.invokevirtual 39, 3) := by decide +kernel
theorem d_87_2__71 : decode prog_87_method_2_code 71 = .ok (.ifCond .le 57, 3) := by decide +kernel
theorem d_87_2__74 : decode prog_87_method_2_code 74 = .ok (.iload 6, 2) := by decide +kernel
theorem d_87_2__76 : decode prog_87_method_2_code 76 = .ok (.aload_n 2, 1) := by decide +kernel
theorem d_87_2__77 : decode prog_87_method_2_code 77 = .ok (.arraylength, 1) := by decide +kernel
theorem d_87_2__78 : decode prog_87_method_2_code 78 = .ok (.if_icmp .ge 50, 3) := by decide +kernel
theorem d_87_2__81 : decode prog_87_method_2_code 81 = .ok (.aload_n 2, 1) := by decide +kernel
theorem d_87_2__82 : decode prog_87_method_2_code 82 = .ok (.iload 6, 2) := by decide +kernel
theorem d_87_2__84 : decode prog_87_method_2_code 84 = .ok (.baload, 1) := by decide +kernel
theorem d_87_2__85 : decode prog_87_method_2_code 85 = .ok (.ifCond .eq 43, 3) := by decide +kernel
theorem d_87_2__88 : decode prog_87_method_2_code 88 = .ok (.aload_n 0, 1) := by decide +kernel
theorem d_87_2__89 : decode prog_87_method_2_code 89 = .ok (.getfield 7, 3) := by decide +kernel
theorem d_87_2__92 : decode prog_87_method_2_code 92 = .ok (.aload_n 0, 1) := by decide +kernel
theorem d_87_2__93 : decode prog_87_method_2_code 93 = .ok (.dup, 1) := by decide +kernel
theorem d_87_2__94 : decode prog_87_method_2_code 94 = .ok (.getfield 28, 3) := by decide +kernel
theorem d_87_2__97 : decode prog_87_method_2_code 97 = .ok (.dup_x1, 1) := by decide +kernel
theorem d_87_2__98 : decode prog_87_method_2_code 98 = .ok (.iconst 1, 1) := by decide +kernel
theorem d_87_2__99 : decode prog_87_method_2_code 99 = .ok (.iadd, 1) := by decide +kernel
theorem d_87_2__100 : decode prog_87_method_2_code 100 = .ok (.putfield 28, 3) := by decide +kernel
theorem d_87_2__103 : decode prog_87_method_2_code 103 = .ok (.iload 6, 2) := by decide +kernel
theorem d_87_2__105 : decode prog_87_method_2_code 105 = .ok (.iastore, 1) := by decide +kernel
theorem d_87_2__106 : decode prog_87_method_2_code 106 = .ok (.aload_n 0, 1) := by decide +kernel
theorem d_87_2__107 : decode prog_87_method_2_code 107 = .ok (.getfield 7, 3) := by decide +kernel
theorem d_87_2__110 : decode prog_87_method_2_code 110 = .ok (.aload_n 0, 1) := by decide +kernel
theorem d_87_2__111 : decode prog_87_method_2_code 111 = .ok (.dup, 1) := by decide +kernel
theorem d_87_2__112 : decode prog_87_method_2_code 112 = .ok (.getfield 28, 3) := by decide +kernel
theorem d_87_2__115 : decode prog_87_method_2_code 115 = .ok (.dup_x1, 1) := by decide +kernel
theorem d_87_2__116 : decode prog_87_method_2_code 116 = .ok (.iconst 1, 1) := by decide +kernel
theorem d_87_2__117 : decode prog_87_method_2_code 117 = .ok (.iadd, 1) := by decide +kernel
theorem d_87_2__118 : decode prog_87_method_2_code 118 = .ok (.putfield 28, 3) := by decide +kernel
theorem d_87_2__121 : decode prog_87_method_2_code 121 = .ok (.aload_n 1, 1) := by decide +kernel
theorem d_87_2__122 : decode prog_87_method_2_code 122 = .ok (.iload 5, 2) := by decide +kernel
theorem d_87_2__124 : decode prog_87_method_2_code 124 = .ok (.invokevirtual 39, 3) := by decide +kernel
theorem d_87_2__127 : decode prog_87_method_2_code 127 = .ok (.iastore, 1) := by decide +kernel
theorem d_87_2__128 : decode prog_87_method_2_code 128 = .ok (.iinc 5 1, 3) := by decide +kernel
theorem d_87_2__131 : decode prog_87_method_2_code 131 = .ok (.goto (-83), 3) := by decide +kernel
set_option maxRecDepth 65536 in
set_option maxHeartbeats 40000000 in
theorem rmRd (l : Launch) (Z : State) (a0 : Array Value) (hw : ∀ d ∈ tables_1, d.before a0 Z = true) (p1 hv cp : Addr) (mk ct : Addr) (mv : Value) (mc : Int32) (vs : List Value) (x y : Int32) (n0 : Nat) (h0 : Heap) (n0_p1 : n0 ≤ p1) (Z0 : n0 ≤ h0.size) (ne_hv : hv ≠ p1) (ne_cp : cp ≠ p1) (ne_mk : mk ≠ p1) (ne_ct : ct ≠ p1) (E : Exa Z h0 p1 "com/example/tracemass/tracemass/qstates/SilentPath$Pairs") (F1 : Fld Z h0 p1 "com/example/tracemass/tracemass/qstates/SilentPath$Pairs" "values" "[I" (.ref hv)) (F2 : Fld Z h0 p1 "com/example/tracemass/tracemass/qstates/SilentPath$Pairs" "length" "I" (.int (0 : Int32))) (V : AV Z h0 hv .int []) (Vp : AV Z h0 cp .boolean [.int 1, .int 1]) (Em : Exa Z h0 mk "com/example/tracemass/tracemass/nets/Marking") (Fm : Fld Z h0 mk "com/example/tracemass/tracemass/nets/Marking" "marked" "[I" mv) (Fc : Fld Z h0 mk "com/example/tracemass/tracemass/nets/Marking" "counts" "[I" (.ref ct)) (Fk : Fld Z h0 mk "com/example/tracemass/tracemass/nets/Marking" "markedCount" "I" (.int mc)) (Vm : AV Z h0 ct .int vs) (hf : own_fm mv mc vs x y) : Con l Z (⟨"com/example/tracemass/tracemass/qstates/SilentPath$Pairs", "read", "(Lcom/example/tracemass/tracemass/nets/Marking;[ZI)V"⟩ : MethodName) prog_87_method_2_code 7 none [] ({ frames := 1, cells := 1, slots := 4, locals := 20 } : Room) #[(.ref p1), (.ref mk), (.ref cp), (.int (2 : Int32))] h0 (fun v h L => v = none ∧ Fr n0 L ∧ Keep h0 h [p1] ∧ ∃ nv : Addr, Exa Z h p1 "com/example/tracemass/tracemass/qstates/SilentPath$Pairs" ∧ Fld Z h p1 "com/example/tracemass/tracemass/qstates/SilentPath$Pairs" "values" "[I" (.ref nv) ∧ Fld Z h p1 "com/example/tracemass/tracemass/qstates/SilentPath$Pairs" "length" "I" (.int (own_pl x y)) ∧ AV Z h nv .int (own_pr x y)) := by
  refine Con.of (plainFor_of_name pn_com_example_tracemass_tracemass_qstates_SilentPath_Pairs) ?_
  intro p e s m below meth c T X hx hby hml hown hnm hret eT hZ hsh Φ fin
  replace hown : s.vm.findClass "com/example/tracemass/tracemass/qstates/SilentPath$Pairs" = some m.cls := hown
  replace hml : 7 = c.maxLocals := hml.symm
  refine own_step (fun tq kq => castTop (ef_rmRd m p1 mk cp (2 : Int32)) kq) ?_
  have N0 := Fr.nil n0
  have K0 : Keep h0 h0 [p1] := Keep.refl h0 [p1]
  rcases hf with ⟨hr, hc, rfl, rfl, rfl, rfl⟩ | ⟨rfl, rfl, rfl, h1, h2⟩ | ⟨rfl, rfl, rfl, h1, h2⟩ | ⟨rfl, rfl, rfl, h1, h2⟩
  · refine own_iconst X hx hby d_87_2__0 (v := (2 : Int32)) rfl (pc' := 1) rfl ?_
    refine own_aloadN X hx hby d_87_2__1 rfl rfl (pc' := 2) rfl ?_
    refine own_callV X hx hby hZ (by exact hml) hown (own_w hw 170 rfl) (own_w hw 171 rfl) (own_w hw 173 rfl) (own_w hw 172 rfl) (own_w hw 4 rfl) (own_w hw 174 rfl) (by decide) eT 1 (by decide) (by decide) (by decide) (by decide) (argsL := []) (rest := [(.int (2 : Int32))]) (lenOf pd___I rfl) rfl (Nat.le_of_eq rfl) Em (rmMd l Z a0 hw mk (0 : Int32) h0 Fk) d_87_2__2 (pc' := 5) rfl ?_
    intro v1 T1 L1 X1 hQ1
    obtain ⟨rfl, rfl, e1⟩ := hQ1
    rw [List.append_nil] at X1
    replace e1 : T1.heap = h0 := e1
    show GoP p e below Φ (T1.setTop (mkF m 5 #[.val (.ref p1), .val (.ref mk), .val (.ref cp), .val (.int (2 : Int32)), .unset, .unset, .unset] [(.int (0 : Int32)), (.int (2 : Int32))]))
    refine own_iloadN X1 hx hby d_87_2__5 rfl (pc' := 6) rfl ?_
    refine own_callS X1 hx hby hZ (by exact hml) hown (own_w hw 175 rfl) (own_w hw 176 rfl) (own_w hw 117 rfl) (own_w hw 177 rfl) (by decide) e1 1 (by decide) (by decide) (by decide) (by decide) (argsL := [(.int (0 : Int32)), (.int (2 : Int32))]) (rest := [(.int (2 : Int32))]) (lenOf pd__II_I rfl) rfl (rmMn l Z a0 hw (0 : Int32) h0 (by decide)) (Nat.le_of_eq rfl) d_87_2__6 (pc' := 9) rfl ?_
    intro v2 T2 L2 X2 hQ2
    obtain ⟨rfl, rfl, e2⟩ := hQ2
    rw [List.append_nil] at X2
    replace e2 : T2.heap = h0 := e2
    show GoP p e below Φ (T2.setTop (mkF m 9 #[.val (.ref p1), .val (.ref mk), .val (.ref cp), .val (.int (2 : Int32)), .unset, .unset, .unset] [(.int (0 : Int32)), (.int (2 : Int32))]))
    refine own_imul X2 hx hby d_87_2__9 (pc' := 10) rfl ?_
    show GoP p e below Φ (T2.setTop (mkF m 10 #[.val (.ref p1), .val (.ref mk), .val (.ref cp), .val (.int (2 : Int32)), .unset, .unset, .unset] [(.int (0 : Int32))]))
    refine own_istore X2 hx hby d_87_2__10  (Ls' := #[.val (.ref p1), .val (.ref mk), .val (.ref cp), .val (.int (2 : Int32)), .val (.int (0 : Int32)), .unset, .unset]) rfl (pc' := 12) rfl ?_
    refine own_aloadN X2 hx hby d_87_2__12 rfl rfl (pc' := 13) rfl ?_
    refine own_getF X2 hx hby hZ hown (host := "") (Or.inl (own_w hw 107 rfl)) Via.refl e2 F1 d_87_2__13 (pc' := 16) rfl ?_
    intro T3 X3 e3
    refine own_alen X3 hx hby hZ e3 (n := (0 : Int32)) V rfl d_87_2__16 (pc' := 17) rfl ?_
    refine own_iload X3 hx hby d_87_2__17 rfl (pc' := 19) rfl ?_
    refine own_icmpY X3 hx hby d_87_2__19 (flt (by decide)).2.1 (by decide) (pc' := 40) (by decide) ?_
    refine own_aloadN X3 hx hby d_87_2__40 rfl rfl (pc' := 41) rfl ?_
    refine own_iconst X3 hx hby d_87_2__41 (v := (0 : Int32)) rfl (pc' := 42) rfl ?_
    refine own_putF X3 hx hby hZ hown (host := "") (Or.inl (own_w hw 179 rfl)) Via.refl e3 F2 E (Or.inl (own_w hw 180 rfl)) (own_w hw 101 rfl) (ty := .int) (by decide) rfl rfl d_87_2__42 (pc' := 45) rfl ?_
    intro T4 h4 X4 e4 W4
    have E5_p1 := E.wr W4
    have F6_values := F1.other W4 (Or.inr (slot_ne (Or.inl (own_w hw 108 rfl)) (Or.inl (own_w hw 180 rfl)) (by decide) (t := (.array .int)) (t' := .int) (by decide) (by decide)))
    have F7_length := F2.same W4
    have V8_hv := V.other W4 ne_hv
    have V9_cp := Vp.other W4 ne_cp
    have E10_mk := Em.wr W4
    have F11_marked := Fm.other W4 (Or.inl ne_mk)
    have F12_counts := Fc.other W4 (Or.inl ne_mk)
    have F13_markedCount := Fk.other W4 (Or.inl ne_mk)
    have V14_ct := Vm.other W4 ne_ct
    have Z4 : n0 ≤ h4.size := by rw [W4.size]; exact Z0
    have N4 := Fr.snoc X4 N0 n0_p1
    have K4 : Keep h0 h4 [p1] := K0.wr W4 (Or.inl (List.mem_of_getElem? (i := 0) rfl))
    refine own_iconst X4 hx hby d_87_2__45 (v := (0 : Int32)) rfl (pc' := 46) rfl ?_
    refine own_istore X4 hx hby d_87_2__46  (Ls' := #[.val (.ref p1), .val (.ref mk), .val (.ref cp), .val (.int (2 : Int32)), .val (.int (0 : Int32)), .val (.int (0 : Int32)), .unset]) rfl (pc' := 48) rfl ?_
    refine own_iload X4 hx hby d_87_2__48 rfl (pc' := 50) rfl ?_
    refine own_aloadN X4 hx hby d_87_2__50 rfl rfl (pc' := 51) rfl ?_
    refine own_callV X4 hx hby hZ (by exact hml) hown (own_w hw 181 rfl) (own_w hw 137 rfl) (own_w hw 139 rfl) (own_w hw 138 rfl) (own_w hw 4 rfl) (own_w hw 140 rfl) (by decide) e4 1 (by decide) (by decide) (by decide) (by decide) (argsL := []) (rest := [(.int (0 : Int32))]) (lenOf pd___I rfl) rfl (Nat.le_of_eq rfl) E10_mk (rmEn0 l Z a0 hw mk ct  h4 F12_counts V14_ct) d_87_2__51 (pc' := 54) rfl ?_
    intro v15 T15 L15 X15 hQ15
    obtain ⟨rfl, rfl, e15⟩ := hQ15
    rw [List.append_nil] at X15
    replace e15 : T15.heap = h4 := e15
    show GoP p e below Φ (T15.setTop (mkF m 54 #[.val (.ref p1), .val (.ref mk), .val (.ref cp), .val (.int (2 : Int32)), .val (.int (0 : Int32)), .val (.int (0 : Int32)), .unset] [(.int (0 : Int32)), (.int (0 : Int32))]))
    refine own_icmpY X15 hx hby d_87_2__54 (flt (by decide)).2.1 (by decide) (pc' := 134) (by decide) ?_
    exact own_ret0 X15 hx hby fin hret d_87_2__134 (by decide) (by decide) (by rw [(show own_pl (0 : Int32) (0 : Int32) = (0 : Int32) from by decide), (show own_pr (0 : Int32) (0 : Int32) = [] from rfl)]; rw [e15]; exact ⟨rfl, N4, K4, hv, E5_p1, F6_values, F7_length, V8_hv⟩)
  · refine own_iconst X hx hby d_87_2__0 (v := (2 : Int32)) rfl (pc' := 1) rfl ?_
    refine own_aloadN X hx hby d_87_2__1 rfl rfl (pc' := 2) rfl ?_
    refine own_callV X hx hby hZ (by exact hml) hown (own_w hw 170 rfl) (own_w hw 171 rfl) (own_w hw 173 rfl) (own_w hw 172 rfl) (own_w hw 4 rfl) (own_w hw 174 rfl) (by decide) eT 1 (by decide) (by decide) (by decide) (by decide) (argsL := []) (rest := [(.int (2 : Int32))]) (lenOf pd___I rfl) rfl (Nat.le_of_eq rfl) Em (rmMd l Z a0 hw mk (1 : Int32) h0 Fk) d_87_2__2 (pc' := 5) rfl ?_
    intro v16 T16 L16 X16 hQ16
    obtain ⟨rfl, rfl, e16⟩ := hQ16
    rw [List.append_nil] at X16
    replace e16 : T16.heap = h0 := e16
    show GoP p e below Φ (T16.setTop (mkF m 5 #[.val (.ref p1), .val (.ref mk), .val (.ref cp), .val (.int (2 : Int32)), .unset, .unset, .unset] [(.int (1 : Int32)), (.int (2 : Int32))]))
    refine own_iloadN X16 hx hby d_87_2__5 rfl (pc' := 6) rfl ?_
    refine own_callS X16 hx hby hZ (by exact hml) hown (own_w hw 175 rfl) (own_w hw 176 rfl) (own_w hw 117 rfl) (own_w hw 177 rfl) (by decide) e16 1 (by decide) (by decide) (by decide) (by decide) (argsL := [(.int (1 : Int32)), (.int (2 : Int32))]) (rest := [(.int (2 : Int32))]) (lenOf pd__II_I rfl) rfl (rmMn l Z a0 hw (1 : Int32) h0 (by decide)) (Nat.le_of_eq rfl) d_87_2__6 (pc' := 9) rfl ?_
    intro v17 T17 L17 X17 hQ17
    obtain ⟨rfl, rfl, e17⟩ := hQ17
    rw [List.append_nil] at X17
    replace e17 : T17.heap = h0 := e17
    show GoP p e below Φ (T17.setTop (mkF m 9 #[.val (.ref p1), .val (.ref mk), .val (.ref cp), .val (.int (2 : Int32)), .unset, .unset, .unset] [(.int (1 : Int32)), (.int (2 : Int32))]))
    refine own_imul X17 hx hby d_87_2__9 (pc' := 10) rfl ?_
    show GoP p e below Φ (T17.setTop (mkF m 10 #[.val (.ref p1), .val (.ref mk), .val (.ref cp), .val (.int (2 : Int32)), .unset, .unset, .unset] [(.int (2 : Int32))]))
    refine own_istore X17 hx hby d_87_2__10  (Ls' := #[.val (.ref p1), .val (.ref mk), .val (.ref cp), .val (.int (2 : Int32)), .val (.int (2 : Int32)), .unset, .unset]) rfl (pc' := 12) rfl ?_
    refine own_aloadN X17 hx hby d_87_2__12 rfl rfl (pc' := 13) rfl ?_
    refine own_getF X17 hx hby hZ hown (host := "") (Or.inl (own_w hw 107 rfl)) Via.refl e17 F1 d_87_2__13 (pc' := 16) rfl ?_
    intro T18 X18 e18
    refine own_alen X18 hx hby hZ e18 (n := (0 : Int32)) V rfl d_87_2__16 (pc' := 17) rfl ?_
    refine own_iload X18 hx hby d_87_2__17 rfl (pc' := 19) rfl ?_
    refine own_icmpN X18 hx hby d_87_2__19 (tlt (by decide)).2.1 (pc' := 22) rfl ?_
    refine own_aloadN X18 hx hby d_87_2__22 rfl rfl (pc' := 23) rfl ?_
    refine own_iload X18 hx hby d_87_2__23 rfl (pc' := 25) rfl ?_
    refine own_iconst X18 hx hby d_87_2__25 (v := (2 : Int32)) rfl (pc' := 26) rfl ?_
    refine own_aloadN X18 hx hby d_87_2__26 rfl rfl (pc' := 27) rfl ?_
    refine own_getF X18 hx hby hZ hown (host := "") (Or.inl (own_w hw 107 rfl)) Via.refl e18 F1 d_87_2__27 (pc' := 30) rfl ?_
    intro T19 X19 e19
    refine own_alen X19 hx hby hZ e19 (n := (0 : Int32)) V rfl d_87_2__30 (pc' := 31) rfl ?_
    refine own_imul X19 hx hby d_87_2__31 (pc' := 32) rfl ?_
    show GoP p e below Φ (T19.setTop (mkF m 32 #[.val (.ref p1), .val (.ref mk), .val (.ref cp), .val (.int (2 : Int32)), .val (.int (2 : Int32)), .unset, .unset] [(.int (0 : Int32)), (.int (2 : Int32)), (.ref p1)]))
    refine own_callS X19 hx hby hZ (by exact hml) hown (own_w hw 178 rfl) (own_w hw 116 rfl) (own_w hw 117 rfl) (own_w hw 118 rfl) (by decide) e19 1 (by decide) (by decide) (by decide) (by decide) (argsL := [(.int (2 : Int32)), (.int (0 : Int32))]) (rest := [(.ref p1)]) (lenOf pd__II_I rfl) rfl (rmMx_2_0 l Z a0 hw h0) (Nat.le_of_eq rfl) d_87_2__32 (pc' := 35) rfl ?_
    intro v20 T20 L20 X20 hQ20
    obtain ⟨rfl, rfl, e20⟩ := hQ20
    rw [List.append_nil] at X20
    replace e20 : T20.heap = h0 := e20
    show GoP p e below Φ (T20.setTop (mkF m 35 #[.val (.ref p1), .val (.ref mk), .val (.ref cp), .val (.int (2 : Int32)), .val (.int (2 : Int32)), .unset, .unset] [(.int (2 : Int32)), (.ref p1)]))
    refine own_newI X20 hx hby hZ (own_w hw 1 rfl) e20 (by decide) 2 (by decide) (by decide) (by decide) (by decide) d_87_2__35 (pc' := 37) rfl ?_
    intro T21 h21 b21 X21 e21 E21 g21 V21 I21 A21
    have ne_p1_b21 : p1 ≠ b21 := Nat.ne_of_lt (g21 ▸ E.lt)
    have ne_hv_b21 : hv ≠ b21 := Nat.ne_of_lt (g21 ▸ V.lt)
    have ne_cp_b21 : cp ≠ b21 := Nat.ne_of_lt (g21 ▸ Vp.lt)
    have ne_mk_b21 : mk ≠ b21 := Nat.ne_of_lt (g21 ▸ Em.lt)
    have ne_ct_b21 : ct ≠ b21 := Nat.ne_of_lt (g21 ▸ Vm.lt)
    have E22_p1 := E.ext E21
    have F23_values := F1.ext E21
    have F24_length := F2.ext E21
    have V25_hv := V.ext E21
    have V26_cp := Vp.ext E21
    have E27_mk := Em.ext E21
    have F28_marked := Fm.ext E21
    have F29_counts := Fc.ext E21
    have F30_markedCount := Fk.ext E21
    have V31_ct := Vm.ext E21
    have Z21 : n0 ≤ h21.size := Nat.le_trans Z0 E21.1
    have n0_b21 : n0 ≤ b21 := g21 ▸ Z0
    have sz_b21 : h0.size ≤ b21 := g21 ▸ K0.1
    have K21 : Keep h0 h21 [p1] := K0.ext E21
    replace V21 : AV Z h21 b21 .int [(.int (0 : Int32)), (.int (0 : Int32))] := V21
    show GoP p e below Φ (T21.setTop (mkF m 37 #[.val (.ref p1), .val (.ref mk), .val (.ref cp), .val (.int (2 : Int32)), .val (.int (2 : Int32)), .unset, .unset] [(.ref b21), (.ref p1)]))
    refine own_putF X21 hx hby hZ hown (host := "") (Or.inl (own_w hw 107 rfl)) Via.refl e21 F23_values E22_p1 (Or.inl (own_w hw 108 rfl)) (own_w hw 101 rfl) (ty := (.array .int)) (by decide) rfl rfl d_87_2__37 (pc' := 40) rfl ?_
    intro T32 h32 X32 e32 W32
    have E33_p1 := E22_p1.wr W32
    have F34_values := F23_values.same W32
    have F35_length := F24_length.other W32 (Or.inr (slot_ne (Or.inl (own_w hw 180 rfl)) (Or.inl (own_w hw 108 rfl)) (by decide) (t := .int) (t' := (.array .int)) (by decide) (by decide)))
    have V36_hv := V25_hv.other W32 ne_hv
    have V37_cp := V26_cp.other W32 ne_cp
    have E38_mk := E27_mk.wr W32
    have F39_marked := F28_marked.other W32 (Or.inl ne_mk)
    have F40_counts := F29_counts.other W32 (Or.inl ne_mk)
    have F41_markedCount := F30_markedCount.other W32 (Or.inl ne_mk)
    have V42_ct := V31_ct.other W32 ne_ct
    have V43_b21 := V21.other W32 (Ne.symm ne_p1_b21)
    have E44_b21 := A21.wr W32
    have Z32 : n0 ≤ h32.size := by rw [W32.size]; exact Z21
    have N32 := Fr.snoc X32 N0 n0_p1
    have K32 : Keep h0 h32 [p1] := K21.wr W32 (Or.inl (List.mem_of_getElem? (i := 0) rfl))
    refine own_aloadN X32 hx hby d_87_2__40 rfl rfl (pc' := 41) rfl ?_
    refine own_iconst X32 hx hby d_87_2__41 (v := (0 : Int32)) rfl (pc' := 42) rfl ?_
    refine own_putF X32 hx hby hZ hown (host := "") (Or.inl (own_w hw 179 rfl)) Via.refl e32 F35_length E33_p1 (Or.inl (own_w hw 180 rfl)) (own_w hw 101 rfl) (ty := .int) (by decide) rfl rfl d_87_2__42 (pc' := 45) rfl ?_
    intro T45 h45 X45 e45 W45
    have E46_p1 := E33_p1.wr W45
    have F47_values := F34_values.other W45 (Or.inr (slot_ne (Or.inl (own_w hw 108 rfl)) (Or.inl (own_w hw 180 rfl)) (by decide) (t := (.array .int)) (t' := .int) (by decide) (by decide)))
    have F48_length := F35_length.same W45
    have V49_hv := V36_hv.other W45 ne_hv
    have V50_cp := V37_cp.other W45 ne_cp
    have E51_mk := E38_mk.wr W45
    have F52_marked := F39_marked.other W45 (Or.inl ne_mk)
    have F53_counts := F40_counts.other W45 (Or.inl ne_mk)
    have F54_markedCount := F41_markedCount.other W45 (Or.inl ne_mk)
    have V55_ct := V42_ct.other W45 ne_ct
    have V56_b21 := V43_b21.other W45 (Ne.symm ne_p1_b21)
    have E57_b21 := E44_b21.wr W45
    have Z45 : n0 ≤ h45.size := by rw [W45.size]; exact Z32
    have N45 := Fr.snoc X45 N32 n0_p1
    have K45 : Keep h0 h45 [p1] := K32.wr W45 (Or.inl (List.mem_of_getElem? (i := 0) rfl))
    refine own_iconst X45 hx hby d_87_2__45 (v := (0 : Int32)) rfl (pc' := 46) rfl ?_
    refine own_istore X45 hx hby d_87_2__46  (Ls' := #[.val (.ref p1), .val (.ref mk), .val (.ref cp), .val (.int (2 : Int32)), .val (.int (2 : Int32)), .val (.int (0 : Int32)), .unset]) rfl (pc' := 48) rfl ?_
    refine own_iload X45 hx hby d_87_2__48 rfl (pc' := 50) rfl ?_
    refine own_aloadN X45 hx hby d_87_2__50 rfl rfl (pc' := 51) rfl ?_
    refine own_callV X45 hx hby hZ (by exact hml) hown (own_w hw 181 rfl) (own_w hw 137 rfl) (own_w hw 139 rfl) (own_w hw 138 rfl) (own_w hw 4 rfl) (own_w hw 140 rfl) (by decide) e45 1 (by decide) (by decide) (by decide) (by decide) (argsL := []) (rest := [(.int (0 : Int32))]) (lenOf pd___I rfl) rfl (Nat.le_of_eq rfl) E51_mk (rmEn2 l Z a0 hw mk ct x y h45 F53_counts V55_ct) d_87_2__51 (pc' := 54) rfl ?_
    intro v58 T58 L58 X58 hQ58
    obtain ⟨rfl, rfl, e58⟩ := hQ58
    rw [List.append_nil] at X58
    replace e58 : T58.heap = h45 := e58
    show GoP p e below Φ (T58.setTop (mkF m 54 #[.val (.ref p1), .val (.ref mk), .val (.ref cp), .val (.int (2 : Int32)), .val (.int (2 : Int32)), .val (.int (0 : Int32)), .unset] [(.int (2 : Int32)), (.int (0 : Int32))]))
    refine own_icmpN X58 hx hby d_87_2__54 (tlt (by decide)).2.1 (pc' := 57) rfl ?_
    refine own_aloadN X58 hx hby d_87_2__57 rfl rfl (pc' := 58) rfl ?_
    refine own_iload X58 hx hby d_87_2__58 rfl (pc' := 60) rfl ?_
    refine own_callV X58 hx hby hZ (by exact hml) hown (own_w hw 182 rfl) (own_w hw 142 rfl) (own_w hw 144 rfl) (own_w hw 143 rfl) (own_w hw 4 rfl) (own_w hw 145 rfl) (by decide) e58 0 (by decide) (by decide) (by decide) (by decide) (argsL := [(.int (0 : Int32))]) (rest := []) (lenOf pd__I_I rfl) rfl (Nat.le_of_eq rfl) E51_mk (rmEP l Z a0 hw mk (0 : Int32) h45 F52_marked) d_87_2__60 (pc' := 63) rfl ?_
    intro v59 T59 L59 X59 hQ59
    obtain ⟨rfl, rfl, e59⟩ := hQ59
    rw [List.append_nil] at X59
    replace e59 : T59.heap = h45 := e59
    show GoP p e below Φ (T59.setTop (mkF m 63 #[.val (.ref p1), .val (.ref mk), .val (.ref cp), .val (.int (2 : Int32)), .val (.int (2 : Int32)), .val (.int (0 : Int32)), .unset] [(.int (0 : Int32))]))
    refine own_istore X59 hx hby d_87_2__63  (Ls' := #[.val (.ref p1), .val (.ref mk), .val (.ref cp), .val (.int (2 : Int32)), .val (.int (2 : Int32)), .val (.int (0 : Int32)), .val (.int (0 : Int32))]) rfl (pc' := 65) rfl ?_
    refine own_aloadN X59 hx hby d_87_2__65 rfl rfl (pc' := 66) rfl ?_
    refine own_iload X59 hx hby d_87_2__66 rfl (pc' := 68) rfl ?_
    refine own_callV X59 hx hby hZ (by exact hml) hown (own_w hw 183 rfl) (own_w hw 147 rfl) (own_w hw 149 rfl) (own_w hw 148 rfl) (own_w hw 4 rfl) (own_w hw 150 rfl) (by decide) e59 0 (by decide) (by decide) (by decide) (by decide) (argsL := [(.int (0 : Int32))]) (rest := []) (lenOf pd__I_I rfl) rfl (Nat.le_of_eq rfl) E51_mk (rmET0 l Z a0 hw mk ct x y h45 F53_counts V55_ct) d_87_2__68 (pc' := 71) rfl ?_
    intro v60 T60 L60 X60 hQ60
    obtain ⟨rfl, rfl, e60⟩ := hQ60
    rw [List.append_nil] at X60
    replace e60 : T60.heap = h45 := e60
    show GoP p e below Φ (T60.setTop (mkF m 71 #[.val (.ref p1), .val (.ref mk), .val (.ref cp), .val (.int (2 : Int32)), .val (.int (2 : Int32)), .val (.int (0 : Int32)), .val (.int (0 : Int32))] [(.int x)]))
    refine own_ifN X60 hx hby d_87_2__71 ((if0 _ _).trans (tlt h1).2.2.2) (pc' := 74) rfl ?_
    refine own_iload X60 hx hby d_87_2__74 rfl (pc' := 76) rfl ?_
    refine own_aloadN X60 hx hby d_87_2__76 rfl rfl (pc' := 77) rfl ?_
    refine own_alen X60 hx hby hZ e60 (n := (2 : Int32)) V50_cp rfl d_87_2__77 (pc' := 78) rfl ?_
    refine own_icmpN X60 hx hby d_87_2__78 (tlt (by decide)).2.1 (pc' := 81) rfl ?_
    refine own_aloadN X60 hx hby d_87_2__81 rfl rfl (pc' := 82) rfl ?_
    refine own_iload X60 hx hby d_87_2__82 rfl (pc' := 84) rfl ?_
    refine own_baloadZ X60 hx hby hZ e60 V50_cp (by decide) (v := (.int (1 : Int32))) rfl d_87_2__84 (pc' := 85) rfl ?_
    refine own_ifN X60 hx hby d_87_2__85 ((if0 _ _).trans (feq (by decide)).1) (pc' := 88) rfl ?_
    refine own_aloadN X60 hx hby d_87_2__88 rfl rfl (pc' := 89) rfl ?_
    refine own_getF X60 hx hby hZ hown (host := "") (Or.inl (own_w hw 107 rfl)) Via.refl e60 F47_values d_87_2__89 (pc' := 92) rfl ?_
    intro T61 X61 e61
    refine own_aloadN X61 hx hby d_87_2__92 rfl rfl (pc' := 93) rfl ?_
    refine own_dup X61 hx hby d_87_2__93 rfl (pc' := 94) rfl ?_
    refine own_getF X61 hx hby hZ hown (host := "") (Or.inl (own_w hw 179 rfl)) Via.refl e61 F48_length d_87_2__94 (pc' := 97) rfl ?_
    intro T62 X62 e62
    refine own_dup_x1 X62 hx hby d_87_2__97 rfl rfl (pc' := 98) rfl ?_
    refine own_iconst X62 hx hby d_87_2__98 (v := (1 : Int32)) rfl (pc' := 99) rfl ?_
    refine own_iadd X62 hx hby d_87_2__99 (pc' := 100) rfl ?_
    show GoP p e below Φ (T62.setTop (mkF m 100 #[.val (.ref p1), .val (.ref mk), .val (.ref cp), .val (.int (2 : Int32)), .val (.int (2 : Int32)), .val (.int (0 : Int32)), .val (.int (0 : Int32))] [(.int (1 : Int32)), (.ref p1), (.int (0 : Int32)), (.ref b21)]))
    refine own_putF X62 hx hby hZ hown (host := "") (Or.inl (own_w hw 179 rfl)) Via.refl e62 F48_length E46_p1 (Or.inl (own_w hw 180 rfl)) (own_w hw 101 rfl) (ty := .int) (by decide) rfl rfl d_87_2__100 (pc' := 103) rfl ?_
    intro T63 h63 X63 e63 W63
    have E64_p1 := E46_p1.wr W63
    have F65_values := F47_values.other W63 (Or.inr (slot_ne (Or.inl (own_w hw 108 rfl)) (Or.inl (own_w hw 180 rfl)) (by decide) (t := (.array .int)) (t' := .int) (by decide) (by decide)))
    have F66_length := F48_length.same W63
    have V67_hv := V49_hv.other W63 ne_hv
    have V68_cp := V50_cp.other W63 ne_cp
    have E69_mk := E51_mk.wr W63
    have F70_marked := F52_marked.other W63 (Or.inl ne_mk)
    have F71_counts := F53_counts.other W63 (Or.inl ne_mk)
    have F72_markedCount := F54_markedCount.other W63 (Or.inl ne_mk)
    have V73_ct := V55_ct.other W63 ne_ct
    have V74_b21 := V56_b21.other W63 (Ne.symm ne_p1_b21)
    have E75_b21 := E57_b21.wr W63
    have Z63 : n0 ≤ h63.size := by rw [W63.size]; exact Z45
    have N63 := Fr.snoc X63 N45 n0_p1
    have K63 : Keep h0 h63 [p1] := K45.wr W63 (Or.inl (List.mem_of_getElem? (i := 0) rfl))
    refine own_iload X63 hx hby d_87_2__103 rfl (pc' := 105) rfl ?_
    refine own_iastore X63 hx hby hZ e63 V74_b21 (by decide) (Nat.le_of_ble_eq_true rfl) d_87_2__105 (pc' := 106) rfl ?_
    intro T76 h76 X76 e76 W76 V76
    replace V76 : AV Z h76 b21 .int [(.int (0 : Int32)), (.int (0 : Int32))] := V76
    have E77_p1 := E64_p1.wr W76
    have F78_values := F65_values.other W76 (Or.inl ne_p1_b21)
    have F79_length := F66_length.other W76 (Or.inl ne_p1_b21)
    have V80_hv := V67_hv.other W76 ne_hv_b21
    have V81_cp := V68_cp.other W76 ne_cp_b21
    have E82_mk := E69_mk.wr W76
    have F83_marked := F70_marked.other W76 (Or.inl ne_mk_b21)
    have F84_counts := F71_counts.other W76 (Or.inl ne_mk_b21)
    have F85_markedCount := F72_markedCount.other W76 (Or.inl ne_mk_b21)
    have V86_ct := V73_ct.other W76 ne_ct_b21
    have E88_b21 := E75_b21.wr W76
    have Z76 : n0 ≤ h76.size := by rw [W76.size]; exact Z63
    have N76 := Fr.snoc X76 N63 n0_b21
    have K76 : Keep h0 h76 [p1] := K63.wr W76 (Or.inr sz_b21)
    refine own_aloadN X76 hx hby d_87_2__106 rfl rfl (pc' := 107) rfl ?_
    refine own_getF X76 hx hby hZ hown (host := "") (Or.inl (own_w hw 107 rfl)) Via.refl e76 F78_values d_87_2__107 (pc' := 110) rfl ?_
    intro T89 X89 e89
    refine own_aloadN X89 hx hby d_87_2__110 rfl rfl (pc' := 111) rfl ?_
    refine own_dup X89 hx hby d_87_2__111 rfl (pc' := 112) rfl ?_
    refine own_getF X89 hx hby hZ hown (host := "") (Or.inl (own_w hw 179 rfl)) Via.refl e89 F79_length d_87_2__112 (pc' := 115) rfl ?_
    intro T90 X90 e90
    refine own_dup_x1 X90 hx hby d_87_2__115 rfl rfl (pc' := 116) rfl ?_
    refine own_iconst X90 hx hby d_87_2__116 (v := (1 : Int32)) rfl (pc' := 117) rfl ?_
    refine own_iadd X90 hx hby d_87_2__117 (pc' := 118) rfl ?_
    show GoP p e below Φ (T90.setTop (mkF m 118 #[.val (.ref p1), .val (.ref mk), .val (.ref cp), .val (.int (2 : Int32)), .val (.int (2 : Int32)), .val (.int (0 : Int32)), .val (.int (0 : Int32))] [(.int (2 : Int32)), (.ref p1), (.int (1 : Int32)), (.ref b21)]))
    refine own_putF X90 hx hby hZ hown (host := "") (Or.inl (own_w hw 179 rfl)) Via.refl e90 F79_length E77_p1 (Or.inl (own_w hw 180 rfl)) (own_w hw 101 rfl) (ty := .int) (by decide) rfl rfl d_87_2__118 (pc' := 121) rfl ?_
    intro T91 h91 X91 e91 W91
    have E92_p1 := E77_p1.wr W91
    have F93_values := F78_values.other W91 (Or.inr (slot_ne (Or.inl (own_w hw 108 rfl)) (Or.inl (own_w hw 180 rfl)) (by decide) (t := (.array .int)) (t' := .int) (by decide) (by decide)))
    have F94_length := F79_length.same W91
    have V95_hv := V80_hv.other W91 ne_hv
    have V96_cp := V81_cp.other W91 ne_cp
    have E97_mk := E82_mk.wr W91
    have F98_marked := F83_marked.other W91 (Or.inl ne_mk)
    have F99_counts := F84_counts.other W91 (Or.inl ne_mk)
    have F100_markedCount := F85_markedCount.other W91 (Or.inl ne_mk)
    have V101_ct := V86_ct.other W91 ne_ct
    have V102_b21 := V76.other W91 (Ne.symm ne_p1_b21)
    have E103_b21 := E88_b21.wr W91
    have Z91 : n0 ≤ h91.size := by rw [W91.size]; exact Z76
    have N91 := Fr.snoc X91 N76 n0_p1
    have K91 : Keep h0 h91 [p1] := K76.wr W91 (Or.inl (List.mem_of_getElem? (i := 0) rfl))
    refine own_aloadN X91 hx hby d_87_2__121 rfl rfl (pc' := 122) rfl ?_
    refine own_iload X91 hx hby d_87_2__122 rfl (pc' := 124) rfl ?_
    refine own_callV X91 hx hby hZ (by exact hml) hown (own_w hw 183 rfl) (own_w hw 147 rfl) (own_w hw 149 rfl) (own_w hw 148 rfl) (own_w hw 4 rfl) (own_w hw 150 rfl) (by decide) e91 2 (by decide) (by decide) (by decide) (by decide) (argsL := [(.int (0 : Int32))]) (rest := [(.int (1 : Int32)), (.ref b21)]) (lenOf pd__I_I rfl) rfl (Nat.le_of_eq rfl) E97_mk (rmET0 l Z a0 hw mk ct x y h91 F99_counts V101_ct) d_87_2__124 (pc' := 127) rfl ?_
    intro v104 T104 L104 X104 hQ104
    obtain ⟨rfl, rfl, e104⟩ := hQ104
    rw [List.append_nil] at X104
    replace e104 : T104.heap = h91 := e104
    show GoP p e below Φ (T104.setTop (mkF m 127 #[.val (.ref p1), .val (.ref mk), .val (.ref cp), .val (.int (2 : Int32)), .val (.int (2 : Int32)), .val (.int (0 : Int32)), .val (.int (0 : Int32))] [(.int x), (.int (1 : Int32)), (.ref b21)]))
    refine own_iastore X104 hx hby hZ e104 V102_b21 (by decide) (Nat.le_of_ble_eq_true rfl) d_87_2__127 (pc' := 128) rfl ?_
    intro T105 h105 X105 e105 W105 V105
    replace V105 : AV Z h105 b21 .int [(.int (0 : Int32)), (.int x)] := V105
    have E106_p1 := E92_p1.wr W105
    have F107_values := F93_values.other W105 (Or.inl ne_p1_b21)
    have F108_length := F94_length.other W105 (Or.inl ne_p1_b21)
    have V109_hv := V95_hv.other W105 ne_hv_b21
    have V110_cp := V96_cp.other W105 ne_cp_b21
    have E111_mk := E97_mk.wr W105
    have F112_marked := F98_marked.other W105 (Or.inl ne_mk_b21)
    have F113_counts := F99_counts.other W105 (Or.inl ne_mk_b21)
    have F114_markedCount := F100_markedCount.other W105 (Or.inl ne_mk_b21)
    have V115_ct := V101_ct.other W105 ne_ct_b21
    have E117_b21 := E103_b21.wr W105
    have Z105 : n0 ≤ h105.size := by rw [W105.size]; exact Z91
    have N105 := Fr.snoc X105 N91 n0_b21
    have K105 : Keep h0 h105 [p1] := K91.wr W105 (Or.inr sz_b21)
    refine own_iinc X105 hx hby d_87_2__128 rfl (v := (1 : Int32)) rfl (Ls' := #[.val (.ref p1), .val (.ref mk), .val (.ref cp), .val (.int (2 : Int32)), .val (.int (2 : Int32)), .val (.int (1 : Int32)), .val (.int (0 : Int32))]) rfl (pc' := 131) rfl ?_
    refine own_goto X105 hx hby d_87_2__131 (by decide) (pc' := 48) (by decide) ?_
    refine own_iload X105 hx hby d_87_2__48 rfl (pc' := 50) rfl ?_
    refine own_aloadN X105 hx hby d_87_2__50 rfl rfl (pc' := 51) rfl ?_
    refine own_callV X105 hx hby hZ (by exact hml) hown (own_w hw 181 rfl) (own_w hw 137 rfl) (own_w hw 139 rfl) (own_w hw 138 rfl) (own_w hw 4 rfl) (own_w hw 140 rfl) (by decide) e105 1 (by decide) (by decide) (by decide) (by decide) (argsL := []) (rest := [(.int (1 : Int32))]) (lenOf pd___I rfl) rfl (Nat.le_of_eq rfl) E111_mk (rmEn2 l Z a0 hw mk ct x y h105 F113_counts V115_ct) d_87_2__51 (pc' := 54) rfl ?_
    intro v118 T118 L118 X118 hQ118
    obtain ⟨rfl, rfl, e118⟩ := hQ118
    rw [List.append_nil] at X118
    replace e118 : T118.heap = h105 := e118
    show GoP p e below Φ (T118.setTop (mkF m 54 #[.val (.ref p1), .val (.ref mk), .val (.ref cp), .val (.int (2 : Int32)), .val (.int (2 : Int32)), .val (.int (1 : Int32)), .val (.int (0 : Int32))] [(.int (2 : Int32)), (.int (1 : Int32))]))
    refine own_icmpN X118 hx hby d_87_2__54 (tlt (by decide)).2.1 (pc' := 57) rfl ?_
    refine own_aloadN X118 hx hby d_87_2__57 rfl rfl (pc' := 58) rfl ?_
    refine own_iload X118 hx hby d_87_2__58 rfl (pc' := 60) rfl ?_
    refine own_callV X118 hx hby hZ (by exact hml) hown (own_w hw 182 rfl) (own_w hw 142 rfl) (own_w hw 144 rfl) (own_w hw 143 rfl) (own_w hw 4 rfl) (own_w hw 145 rfl) (by decide) e118 0 (by decide) (by decide) (by decide) (by decide) (argsL := [(.int (1 : Int32))]) (rest := []) (lenOf pd__I_I rfl) rfl (Nat.le_of_eq rfl) E111_mk (rmEP l Z a0 hw mk (1 : Int32) h105 F112_marked) d_87_2__60 (pc' := 63) rfl ?_
    intro v119 T119 L119 X119 hQ119
    obtain ⟨rfl, rfl, e119⟩ := hQ119
    rw [List.append_nil] at X119
    replace e119 : T119.heap = h105 := e119
    show GoP p e below Φ (T119.setTop (mkF m 63 #[.val (.ref p1), .val (.ref mk), .val (.ref cp), .val (.int (2 : Int32)), .val (.int (2 : Int32)), .val (.int (1 : Int32)), .val (.int (0 : Int32))] [(.int (1 : Int32))]))
    refine own_istore X119 hx hby d_87_2__63  (Ls' := #[.val (.ref p1), .val (.ref mk), .val (.ref cp), .val (.int (2 : Int32)), .val (.int (2 : Int32)), .val (.int (1 : Int32)), .val (.int (1 : Int32))]) rfl (pc' := 65) rfl ?_
    refine own_aloadN X119 hx hby d_87_2__65 rfl rfl (pc' := 66) rfl ?_
    refine own_iload X119 hx hby d_87_2__66 rfl (pc' := 68) rfl ?_
    refine own_callV X119 hx hby hZ (by exact hml) hown (own_w hw 183 rfl) (own_w hw 147 rfl) (own_w hw 149 rfl) (own_w hw 148 rfl) (own_w hw 4 rfl) (own_w hw 150 rfl) (by decide) e119 0 (by decide) (by decide) (by decide) (by decide) (argsL := [(.int (1 : Int32))]) (rest := []) (lenOf pd__I_I rfl) rfl (Nat.le_of_eq rfl) E111_mk (rmET1 l Z a0 hw mk ct x y h105 F113_counts V115_ct) d_87_2__68 (pc' := 71) rfl ?_
    intro v120 T120 L120 X120 hQ120
    obtain ⟨rfl, rfl, e120⟩ := hQ120
    rw [List.append_nil] at X120
    replace e120 : T120.heap = h105 := e120
    show GoP p e below Φ (T120.setTop (mkF m 71 #[.val (.ref p1), .val (.ref mk), .val (.ref cp), .val (.int (2 : Int32)), .val (.int (2 : Int32)), .val (.int (1 : Int32)), .val (.int (1 : Int32))] [(.int y)]))
    refine own_ifY X120 hx hby d_87_2__71 ((if0 _ _).trans (flt h2).2.2.2) (by decide) (pc' := 128) (by decide) ?_
    refine own_iinc X120 hx hby d_87_2__128 rfl (v := (1 : Int32)) rfl (Ls' := #[.val (.ref p1), .val (.ref mk), .val (.ref cp), .val (.int (2 : Int32)), .val (.int (2 : Int32)), .val (.int (2 : Int32)), .val (.int (1 : Int32))]) rfl (pc' := 131) rfl ?_
    refine own_goto X120 hx hby d_87_2__131 (by decide) (pc' := 48) (by decide) ?_
    refine own_iload X120 hx hby d_87_2__48 rfl (pc' := 50) rfl ?_
    refine own_aloadN X120 hx hby d_87_2__50 rfl rfl (pc' := 51) rfl ?_
    refine own_callV X120 hx hby hZ (by exact hml) hown (own_w hw 181 rfl) (own_w hw 137 rfl) (own_w hw 139 rfl) (own_w hw 138 rfl) (own_w hw 4 rfl) (own_w hw 140 rfl) (by decide) e120 1 (by decide) (by decide) (by decide) (by decide) (argsL := []) (rest := [(.int (2 : Int32))]) (lenOf pd___I rfl) rfl (Nat.le_of_eq rfl) E111_mk (rmEn2 l Z a0 hw mk ct x y h105 F113_counts V115_ct) d_87_2__51 (pc' := 54) rfl ?_
    intro v121 T121 L121 X121 hQ121
    obtain ⟨rfl, rfl, e121⟩ := hQ121
    rw [List.append_nil] at X121
    replace e121 : T121.heap = h105 := e121
    show GoP p e below Φ (T121.setTop (mkF m 54 #[.val (.ref p1), .val (.ref mk), .val (.ref cp), .val (.int (2 : Int32)), .val (.int (2 : Int32)), .val (.int (2 : Int32)), .val (.int (1 : Int32))] [(.int (2 : Int32)), (.int (2 : Int32))]))
    refine own_icmpY X121 hx hby d_87_2__54 (flt (by decide)).2.1 (by decide) (pc' := 134) (by decide) ?_
    exact own_ret0 X121 hx hby fin hret d_87_2__134 (by decide) (by decide) (by rw [(show own_pl x y = (2 : Int32) from (by rw [own_pl, if_pos h1, if_neg h2]; decide)), (show own_pr x y = [(.int (0 : Int32)), (.int x)] from (by rw [own_pr, if_pos h1, if_neg h2]; rfl))]; rw [e121]; exact ⟨rfl, N105, K105, b21, E106_p1, F107_values, F108_length, V105⟩)
  · refine own_iconst X hx hby d_87_2__0 (v := (2 : Int32)) rfl (pc' := 1) rfl ?_
    refine own_aloadN X hx hby d_87_2__1 rfl rfl (pc' := 2) rfl ?_
    refine own_callV X hx hby hZ (by exact hml) hown (own_w hw 170 rfl) (own_w hw 171 rfl) (own_w hw 173 rfl) (own_w hw 172 rfl) (own_w hw 4 rfl) (own_w hw 174 rfl) (by decide) eT 1 (by decide) (by decide) (by decide) (by decide) (argsL := []) (rest := [(.int (2 : Int32))]) (lenOf pd___I rfl) rfl (Nat.le_of_eq rfl) Em (rmMd l Z a0 hw mk (1 : Int32) h0 Fk) d_87_2__2 (pc' := 5) rfl ?_
    intro v122 T122 L122 X122 hQ122
    obtain ⟨rfl, rfl, e122⟩ := hQ122
    rw [List.append_nil] at X122
    replace e122 : T122.heap = h0 := e122
    show GoP p e below Φ (T122.setTop (mkF m 5 #[.val (.ref p1), .val (.ref mk), .val (.ref cp), .val (.int (2 : Int32)), .unset, .unset, .unset] [(.int (1 : Int32)), (.int (2 : Int32))]))
    refine own_iloadN X122 hx hby d_87_2__5 rfl (pc' := 6) rfl ?_
    refine own_callS X122 hx hby hZ (by exact hml) hown (own_w hw 175 rfl) (own_w hw 176 rfl) (own_w hw 117 rfl) (own_w hw 177 rfl) (by decide) e122 1 (by decide) (by decide) (by decide) (by decide) (argsL := [(.int (1 : Int32)), (.int (2 : Int32))]) (rest := [(.int (2 : Int32))]) (lenOf pd__II_I rfl) rfl (rmMn l Z a0 hw (1 : Int32) h0 (by decide)) (Nat.le_of_eq rfl) d_87_2__6 (pc' := 9) rfl ?_
    intro v123 T123 L123 X123 hQ123
    obtain ⟨rfl, rfl, e123⟩ := hQ123
    rw [List.append_nil] at X123
    replace e123 : T123.heap = h0 := e123
    show GoP p e below Φ (T123.setTop (mkF m 9 #[.val (.ref p1), .val (.ref mk), .val (.ref cp), .val (.int (2 : Int32)), .unset, .unset, .unset] [(.int (1 : Int32)), (.int (2 : Int32))]))
    refine own_imul X123 hx hby d_87_2__9 (pc' := 10) rfl ?_
    show GoP p e below Φ (T123.setTop (mkF m 10 #[.val (.ref p1), .val (.ref mk), .val (.ref cp), .val (.int (2 : Int32)), .unset, .unset, .unset] [(.int (2 : Int32))]))
    refine own_istore X123 hx hby d_87_2__10  (Ls' := #[.val (.ref p1), .val (.ref mk), .val (.ref cp), .val (.int (2 : Int32)), .val (.int (2 : Int32)), .unset, .unset]) rfl (pc' := 12) rfl ?_
    refine own_aloadN X123 hx hby d_87_2__12 rfl rfl (pc' := 13) rfl ?_
    refine own_getF X123 hx hby hZ hown (host := "") (Or.inl (own_w hw 107 rfl)) Via.refl e123 F1 d_87_2__13 (pc' := 16) rfl ?_
    intro T124 X124 e124
    refine own_alen X124 hx hby hZ e124 (n := (0 : Int32)) V rfl d_87_2__16 (pc' := 17) rfl ?_
    refine own_iload X124 hx hby d_87_2__17 rfl (pc' := 19) rfl ?_
    refine own_icmpN X124 hx hby d_87_2__19 (tlt (by decide)).2.1 (pc' := 22) rfl ?_
    refine own_aloadN X124 hx hby d_87_2__22 rfl rfl (pc' := 23) rfl ?_
    refine own_iload X124 hx hby d_87_2__23 rfl (pc' := 25) rfl ?_
    refine own_iconst X124 hx hby d_87_2__25 (v := (2 : Int32)) rfl (pc' := 26) rfl ?_
    refine own_aloadN X124 hx hby d_87_2__26 rfl rfl (pc' := 27) rfl ?_
    refine own_getF X124 hx hby hZ hown (host := "") (Or.inl (own_w hw 107 rfl)) Via.refl e124 F1 d_87_2__27 (pc' := 30) rfl ?_
    intro T125 X125 e125
    refine own_alen X125 hx hby hZ e125 (n := (0 : Int32)) V rfl d_87_2__30 (pc' := 31) rfl ?_
    refine own_imul X125 hx hby d_87_2__31 (pc' := 32) rfl ?_
    show GoP p e below Φ (T125.setTop (mkF m 32 #[.val (.ref p1), .val (.ref mk), .val (.ref cp), .val (.int (2 : Int32)), .val (.int (2 : Int32)), .unset, .unset] [(.int (0 : Int32)), (.int (2 : Int32)), (.ref p1)]))
    refine own_callS X125 hx hby hZ (by exact hml) hown (own_w hw 178 rfl) (own_w hw 116 rfl) (own_w hw 117 rfl) (own_w hw 118 rfl) (by decide) e125 1 (by decide) (by decide) (by decide) (by decide) (argsL := [(.int (2 : Int32)), (.int (0 : Int32))]) (rest := [(.ref p1)]) (lenOf pd__II_I rfl) rfl (rmMx_2_0 l Z a0 hw h0) (Nat.le_of_eq rfl) d_87_2__32 (pc' := 35) rfl ?_
    intro v126 T126 L126 X126 hQ126
    obtain ⟨rfl, rfl, e126⟩ := hQ126
    rw [List.append_nil] at X126
    replace e126 : T126.heap = h0 := e126
    show GoP p e below Φ (T126.setTop (mkF m 35 #[.val (.ref p1), .val (.ref mk), .val (.ref cp), .val (.int (2 : Int32)), .val (.int (2 : Int32)), .unset, .unset] [(.int (2 : Int32)), (.ref p1)]))
    refine own_newI X126 hx hby hZ (own_w hw 1 rfl) e126 (by decide) 2 (by decide) (by decide) (by decide) (by decide) d_87_2__35 (pc' := 37) rfl ?_
    intro T127 h127 b127 X127 e127 E127 g127 V127 I127 A127
    have ne_p1_b127 : p1 ≠ b127 := Nat.ne_of_lt (g127 ▸ E.lt)
    have ne_hv_b127 : hv ≠ b127 := Nat.ne_of_lt (g127 ▸ V.lt)
    have ne_cp_b127 : cp ≠ b127 := Nat.ne_of_lt (g127 ▸ Vp.lt)
    have ne_mk_b127 : mk ≠ b127 := Nat.ne_of_lt (g127 ▸ Em.lt)
    have ne_ct_b127 : ct ≠ b127 := Nat.ne_of_lt (g127 ▸ Vm.lt)
    have E128_p1 := E.ext E127
    have F129_values := F1.ext E127
    have F130_length := F2.ext E127
    have V131_hv := V.ext E127
    have V132_cp := Vp.ext E127
    have E133_mk := Em.ext E127
    have F134_marked := Fm.ext E127
    have F135_counts := Fc.ext E127
    have F136_markedCount := Fk.ext E127
    have V137_ct := Vm.ext E127
    have Z127 : n0 ≤ h127.size := Nat.le_trans Z0 E127.1
    have n0_b127 : n0 ≤ b127 := g127 ▸ Z0
    have sz_b127 : h0.size ≤ b127 := g127 ▸ K0.1
    have K127 : Keep h0 h127 [p1] := K0.ext E127
    replace V127 : AV Z h127 b127 .int [(.int (0 : Int32)), (.int (0 : Int32))] := V127
    show GoP p e below Φ (T127.setTop (mkF m 37 #[.val (.ref p1), .val (.ref mk), .val (.ref cp), .val (.int (2 : Int32)), .val (.int (2 : Int32)), .unset, .unset] [(.ref b127), (.ref p1)]))
    refine own_putF X127 hx hby hZ hown (host := "") (Or.inl (own_w hw 107 rfl)) Via.refl e127 F129_values E128_p1 (Or.inl (own_w hw 108 rfl)) (own_w hw 101 rfl) (ty := (.array .int)) (by decide) rfl rfl d_87_2__37 (pc' := 40) rfl ?_
    intro T138 h138 X138 e138 W138
    have E139_p1 := E128_p1.wr W138
    have F140_values := F129_values.same W138
    have F141_length := F130_length.other W138 (Or.inr (slot_ne (Or.inl (own_w hw 180 rfl)) (Or.inl (own_w hw 108 rfl)) (by decide) (t := .int) (t' := (.array .int)) (by decide) (by decide)))
    have V142_hv := V131_hv.other W138 ne_hv
    have V143_cp := V132_cp.other W138 ne_cp
    have E144_mk := E133_mk.wr W138
    have F145_marked := F134_marked.other W138 (Or.inl ne_mk)
    have F146_counts := F135_counts.other W138 (Or.inl ne_mk)
    have F147_markedCount := F136_markedCount.other W138 (Or.inl ne_mk)
    have V148_ct := V137_ct.other W138 ne_ct
    have V149_b127 := V127.other W138 (Ne.symm ne_p1_b127)
    have E150_b127 := A127.wr W138
    have Z138 : n0 ≤ h138.size := by rw [W138.size]; exact Z127
    have N138 := Fr.snoc X138 N0 n0_p1
    have K138 : Keep h0 h138 [p1] := K127.wr W138 (Or.inl (List.mem_of_getElem? (i := 0) rfl))
    refine own_aloadN X138 hx hby d_87_2__40 rfl rfl (pc' := 41) rfl ?_
    refine own_iconst X138 hx hby d_87_2__41 (v := (0 : Int32)) rfl (pc' := 42) rfl ?_
    refine own_putF X138 hx hby hZ hown (host := "") (Or.inl (own_w hw 179 rfl)) Via.refl e138 F141_length E139_p1 (Or.inl (own_w hw 180 rfl)) (own_w hw 101 rfl) (ty := .int) (by decide) rfl rfl d_87_2__42 (pc' := 45) rfl ?_
    intro T151 h151 X151 e151 W151
    have E152_p1 := E139_p1.wr W151
    have F153_values := F140_values.other W151 (Or.inr (slot_ne (Or.inl (own_w hw 108 rfl)) (Or.inl (own_w hw 180 rfl)) (by decide) (t := (.array .int)) (t' := .int) (by decide) (by decide)))
    have F154_length := F141_length.same W151
    have V155_hv := V142_hv.other W151 ne_hv
    have V156_cp := V143_cp.other W151 ne_cp
    have E157_mk := E144_mk.wr W151
    have F158_marked := F145_marked.other W151 (Or.inl ne_mk)
    have F159_counts := F146_counts.other W151 (Or.inl ne_mk)
    have F160_markedCount := F147_markedCount.other W151 (Or.inl ne_mk)
    have V161_ct := V148_ct.other W151 ne_ct
    have V162_b127 := V149_b127.other W151 (Ne.symm ne_p1_b127)
    have E163_b127 := E150_b127.wr W151
    have Z151 : n0 ≤ h151.size := by rw [W151.size]; exact Z138
    have N151 := Fr.snoc X151 N138 n0_p1
    have K151 : Keep h0 h151 [p1] := K138.wr W151 (Or.inl (List.mem_of_getElem? (i := 0) rfl))
    refine own_iconst X151 hx hby d_87_2__45 (v := (0 : Int32)) rfl (pc' := 46) rfl ?_
    refine own_istore X151 hx hby d_87_2__46  (Ls' := #[.val (.ref p1), .val (.ref mk), .val (.ref cp), .val (.int (2 : Int32)), .val (.int (2 : Int32)), .val (.int (0 : Int32)), .unset]) rfl (pc' := 48) rfl ?_
    refine own_iload X151 hx hby d_87_2__48 rfl (pc' := 50) rfl ?_
    refine own_aloadN X151 hx hby d_87_2__50 rfl rfl (pc' := 51) rfl ?_
    refine own_callV X151 hx hby hZ (by exact hml) hown (own_w hw 181 rfl) (own_w hw 137 rfl) (own_w hw 139 rfl) (own_w hw 138 rfl) (own_w hw 4 rfl) (own_w hw 140 rfl) (by decide) e151 1 (by decide) (by decide) (by decide) (by decide) (argsL := []) (rest := [(.int (0 : Int32))]) (lenOf pd___I rfl) rfl (Nat.le_of_eq rfl) E157_mk (rmEn2 l Z a0 hw mk ct x y h151 F159_counts V161_ct) d_87_2__51 (pc' := 54) rfl ?_
    intro v164 T164 L164 X164 hQ164
    obtain ⟨rfl, rfl, e164⟩ := hQ164
    rw [List.append_nil] at X164
    replace e164 : T164.heap = h151 := e164
    show GoP p e below Φ (T164.setTop (mkF m 54 #[.val (.ref p1), .val (.ref mk), .val (.ref cp), .val (.int (2 : Int32)), .val (.int (2 : Int32)), .val (.int (0 : Int32)), .unset] [(.int (2 : Int32)), (.int (0 : Int32))]))
    refine own_icmpN X164 hx hby d_87_2__54 (tlt (by decide)).2.1 (pc' := 57) rfl ?_
    refine own_aloadN X164 hx hby d_87_2__57 rfl rfl (pc' := 58) rfl ?_
    refine own_iload X164 hx hby d_87_2__58 rfl (pc' := 60) rfl ?_
    refine own_callV X164 hx hby hZ (by exact hml) hown (own_w hw 182 rfl) (own_w hw 142 rfl) (own_w hw 144 rfl) (own_w hw 143 rfl) (own_w hw 4 rfl) (own_w hw 145 rfl) (by decide) e164 0 (by decide) (by decide) (by decide) (by decide) (argsL := [(.int (0 : Int32))]) (rest := []) (lenOf pd__I_I rfl) rfl (Nat.le_of_eq rfl) E157_mk (rmEP l Z a0 hw mk (0 : Int32) h151 F158_marked) d_87_2__60 (pc' := 63) rfl ?_
    intro v165 T165 L165 X165 hQ165
    obtain ⟨rfl, rfl, e165⟩ := hQ165
    rw [List.append_nil] at X165
    replace e165 : T165.heap = h151 := e165
    show GoP p e below Φ (T165.setTop (mkF m 63 #[.val (.ref p1), .val (.ref mk), .val (.ref cp), .val (.int (2 : Int32)), .val (.int (2 : Int32)), .val (.int (0 : Int32)), .unset] [(.int (0 : Int32))]))
    refine own_istore X165 hx hby d_87_2__63  (Ls' := #[.val (.ref p1), .val (.ref mk), .val (.ref cp), .val (.int (2 : Int32)), .val (.int (2 : Int32)), .val (.int (0 : Int32)), .val (.int (0 : Int32))]) rfl (pc' := 65) rfl ?_
    refine own_aloadN X165 hx hby d_87_2__65 rfl rfl (pc' := 66) rfl ?_
    refine own_iload X165 hx hby d_87_2__66 rfl (pc' := 68) rfl ?_
    refine own_callV X165 hx hby hZ (by exact hml) hown (own_w hw 183 rfl) (own_w hw 147 rfl) (own_w hw 149 rfl) (own_w hw 148 rfl) (own_w hw 4 rfl) (own_w hw 150 rfl) (by decide) e165 0 (by decide) (by decide) (by decide) (by decide) (argsL := [(.int (0 : Int32))]) (rest := []) (lenOf pd__I_I rfl) rfl (Nat.le_of_eq rfl) E157_mk (rmET0 l Z a0 hw mk ct x y h151 F159_counts V161_ct) d_87_2__68 (pc' := 71) rfl ?_
    intro v166 T166 L166 X166 hQ166
    obtain ⟨rfl, rfl, e166⟩ := hQ166
    rw [List.append_nil] at X166
    replace e166 : T166.heap = h151 := e166
    show GoP p e below Φ (T166.setTop (mkF m 71 #[.val (.ref p1), .val (.ref mk), .val (.ref cp), .val (.int (2 : Int32)), .val (.int (2 : Int32)), .val (.int (0 : Int32)), .val (.int (0 : Int32))] [(.int x)]))
    refine own_ifY X166 hx hby d_87_2__71 ((if0 _ _).trans (flt h1).2.2.2) (by decide) (pc' := 128) (by decide) ?_
    refine own_iinc X166 hx hby d_87_2__128 rfl (v := (1 : Int32)) rfl (Ls' := #[.val (.ref p1), .val (.ref mk), .val (.ref cp), .val (.int (2 : Int32)), .val (.int (2 : Int32)), .val (.int (1 : Int32)), .val (.int (0 : Int32))]) rfl (pc' := 131) rfl ?_
    refine own_goto X166 hx hby d_87_2__131 (by decide) (pc' := 48) (by decide) ?_
    refine own_iload X166 hx hby d_87_2__48 rfl (pc' := 50) rfl ?_
    refine own_aloadN X166 hx hby d_87_2__50 rfl rfl (pc' := 51) rfl ?_
    refine own_callV X166 hx hby hZ (by exact hml) hown (own_w hw 181 rfl) (own_w hw 137 rfl) (own_w hw 139 rfl) (own_w hw 138 rfl) (own_w hw 4 rfl) (own_w hw 140 rfl) (by decide) e166 1 (by decide) (by decide) (by decide) (by decide) (argsL := []) (rest := [(.int (1 : Int32))]) (lenOf pd___I rfl) rfl (Nat.le_of_eq rfl) E157_mk (rmEn2 l Z a0 hw mk ct x y h151 F159_counts V161_ct) d_87_2__51 (pc' := 54) rfl ?_
    intro v167 T167 L167 X167 hQ167
    obtain ⟨rfl, rfl, e167⟩ := hQ167
    rw [List.append_nil] at X167
    replace e167 : T167.heap = h151 := e167
    show GoP p e below Φ (T167.setTop (mkF m 54 #[.val (.ref p1), .val (.ref mk), .val (.ref cp), .val (.int (2 : Int32)), .val (.int (2 : Int32)), .val (.int (1 : Int32)), .val (.int (0 : Int32))] [(.int (2 : Int32)), (.int (1 : Int32))]))
    refine own_icmpN X167 hx hby d_87_2__54 (tlt (by decide)).2.1 (pc' := 57) rfl ?_
    refine own_aloadN X167 hx hby d_87_2__57 rfl rfl (pc' := 58) rfl ?_
    refine own_iload X167 hx hby d_87_2__58 rfl (pc' := 60) rfl ?_
    refine own_callV X167 hx hby hZ (by exact hml) hown (own_w hw 182 rfl) (own_w hw 142 rfl) (own_w hw 144 rfl) (own_w hw 143 rfl) (own_w hw 4 rfl) (own_w hw 145 rfl) (by decide) e167 0 (by decide) (by decide) (by decide) (by decide) (argsL := [(.int (1 : Int32))]) (rest := []) (lenOf pd__I_I rfl) rfl (Nat.le_of_eq rfl) E157_mk (rmEP l Z a0 hw mk (1 : Int32) h151 F158_marked) d_87_2__60 (pc' := 63) rfl ?_
    intro v168 T168 L168 X168 hQ168
    obtain ⟨rfl, rfl, e168⟩ := hQ168
    rw [List.append_nil] at X168
    replace e168 : T168.heap = h151 := e168
    show GoP p e below Φ (T168.setTop (mkF m 63 #[.val (.ref p1), .val (.ref mk), .val (.ref cp), .val (.int (2 : Int32)), .val (.int (2 : Int32)), .val (.int (1 : Int32)), .val (.int (0 : Int32))] [(.int (1 : Int32))]))
    refine own_istore X168 hx hby d_87_2__63  (Ls' := #[.val (.ref p1), .val (.ref mk), .val (.ref cp), .val (.int (2 : Int32)), .val (.int (2 : Int32)), .val (.int (1 : Int32)), .val (.int (1 : Int32))]) rfl (pc' := 65) rfl ?_
    refine own_aloadN X168 hx hby d_87_2__65 rfl rfl (pc' := 66) rfl ?_
    refine own_iload X168 hx hby d_87_2__66 rfl (pc' := 68) rfl ?_
    refine own_callV X168 hx hby hZ (by exact hml) hown (own_w hw 183 rfl) (own_w hw 147 rfl) (own_w hw 149 rfl) (own_w hw 148 rfl) (own_w hw 4 rfl) (own_w hw 150 rfl) (by decide) e168 0 (by decide) (by decide) (by decide) (by decide) (argsL := [(.int (1 : Int32))]) (rest := []) (lenOf pd__I_I rfl) rfl (Nat.le_of_eq rfl) E157_mk (rmET1 l Z a0 hw mk ct x y h151 F159_counts V161_ct) d_87_2__68 (pc' := 71) rfl ?_
    intro v169 T169 L169 X169 hQ169
    obtain ⟨rfl, rfl, e169⟩ := hQ169
    rw [List.append_nil] at X169
    replace e169 : T169.heap = h151 := e169
    show GoP p e below Φ (T169.setTop (mkF m 71 #[.val (.ref p1), .val (.ref mk), .val (.ref cp), .val (.int (2 : Int32)), .val (.int (2 : Int32)), .val (.int (1 : Int32)), .val (.int (1 : Int32))] [(.int y)]))
    refine own_ifN X169 hx hby d_87_2__71 ((if0 _ _).trans (tlt h2).2.2.2) (pc' := 74) rfl ?_
    refine own_iload X169 hx hby d_87_2__74 rfl (pc' := 76) rfl ?_
    refine own_aloadN X169 hx hby d_87_2__76 rfl rfl (pc' := 77) rfl ?_
    refine own_alen X169 hx hby hZ e169 (n := (2 : Int32)) V156_cp rfl d_87_2__77 (pc' := 78) rfl ?_
    refine own_icmpN X169 hx hby d_87_2__78 (tlt (by decide)).2.1 (pc' := 81) rfl ?_
    refine own_aloadN X169 hx hby d_87_2__81 rfl rfl (pc' := 82) rfl ?_
    refine own_iload X169 hx hby d_87_2__82 rfl (pc' := 84) rfl ?_
    refine own_baloadZ X169 hx hby hZ e169 V156_cp (by decide) (v := (.int (1 : Int32))) rfl d_87_2__84 (pc' := 85) rfl ?_
    refine own_ifN X169 hx hby d_87_2__85 ((if0 _ _).trans (feq (by decide)).1) (pc' := 88) rfl ?_
    refine own_aloadN X169 hx hby d_87_2__88 rfl rfl (pc' := 89) rfl ?_
    refine own_getF X169 hx hby hZ hown (host := "") (Or.inl (own_w hw 107 rfl)) Via.refl e169 F153_values d_87_2__89 (pc' := 92) rfl ?_
    intro T170 X170 e170
    refine own_aloadN X170 hx hby d_87_2__92 rfl rfl (pc' := 93) rfl ?_
    refine own_dup X170 hx hby d_87_2__93 rfl (pc' := 94) rfl ?_
    refine own_getF X170 hx hby hZ hown (host := "") (Or.inl (own_w hw 179 rfl)) Via.refl e170 F154_length d_87_2__94 (pc' := 97) rfl ?_
    intro T171 X171 e171
    refine own_dup_x1 X171 hx hby d_87_2__97 rfl rfl (pc' := 98) rfl ?_
    refine own_iconst X171 hx hby d_87_2__98 (v := (1 : Int32)) rfl (pc' := 99) rfl ?_
    refine own_iadd X171 hx hby d_87_2__99 (pc' := 100) rfl ?_
    show GoP p e below Φ (T171.setTop (mkF m 100 #[.val (.ref p1), .val (.ref mk), .val (.ref cp), .val (.int (2 : Int32)), .val (.int (2 : Int32)), .val (.int (1 : Int32)), .val (.int (1 : Int32))] [(.int (1 : Int32)), (.ref p1), (.int (0 : Int32)), (.ref b127)]))
    refine own_putF X171 hx hby hZ hown (host := "") (Or.inl (own_w hw 179 rfl)) Via.refl e171 F154_length E152_p1 (Or.inl (own_w hw 180 rfl)) (own_w hw 101 rfl) (ty := .int) (by decide) rfl rfl d_87_2__100 (pc' := 103) rfl ?_
    intro T172 h172 X172 e172 W172
    have E173_p1 := E152_p1.wr W172
    have F174_values := F153_values.other W172 (Or.inr (slot_ne (Or.inl (own_w hw 108 rfl)) (Or.inl (own_w hw 180 rfl)) (by decide) (t := (.array .int)) (t' := .int) (by decide) (by decide)))
    have F175_length := F154_length.same W172
    have V176_hv := V155_hv.other W172 ne_hv
    have V177_cp := V156_cp.other W172 ne_cp
    have E178_mk := E157_mk.wr W172
    have F179_marked := F158_marked.other W172 (Or.inl ne_mk)
    have F180_counts := F159_counts.other W172 (Or.inl ne_mk)
    have F181_markedCount := F160_markedCount.other W172 (Or.inl ne_mk)
    have V182_ct := V161_ct.other W172 ne_ct
    have V183_b127 := V162_b127.other W172 (Ne.symm ne_p1_b127)
    have E184_b127 := E163_b127.wr W172
    have Z172 : n0 ≤ h172.size := by rw [W172.size]; exact Z151
    have N172 := Fr.snoc X172 N151 n0_p1
    have K172 : Keep h0 h172 [p1] := K151.wr W172 (Or.inl (List.mem_of_getElem? (i := 0) rfl))
    refine own_iload X172 hx hby d_87_2__103 rfl (pc' := 105) rfl ?_
    refine own_iastore X172 hx hby hZ e172 V183_b127 (by decide) (Nat.le_of_ble_eq_true rfl) d_87_2__105 (pc' := 106) rfl ?_
    intro T185 h185 X185 e185 W185 V185
    replace V185 : AV Z h185 b127 .int [(.int (1 : Int32)), (.int (0 : Int32))] := V185
    have E186_p1 := E173_p1.wr W185
    have F187_values := F174_values.other W185 (Or.inl ne_p1_b127)
    have F188_length := F175_length.other W185 (Or.inl ne_p1_b127)
    have V189_hv := V176_hv.other W185 ne_hv_b127
    have V190_cp := V177_cp.other W185 ne_cp_b127
    have E191_mk := E178_mk.wr W185
    have F192_marked := F179_marked.other W185 (Or.inl ne_mk_b127)
    have F193_counts := F180_counts.other W185 (Or.inl ne_mk_b127)
    have F194_markedCount := F181_markedCount.other W185 (Or.inl ne_mk_b127)
    have V195_ct := V182_ct.other W185 ne_ct_b127
    have E197_b127 := E184_b127.wr W185
    have Z185 : n0 ≤ h185.size := by rw [W185.size]; exact Z172
    have N185 := Fr.snoc X185 N172 n0_b127
    have K185 : Keep h0 h185 [p1] := K172.wr W185 (Or.inr sz_b127)
    refine own_aloadN X185 hx hby d_87_2__106 rfl rfl (pc' := 107) rfl ?_
    refine own_getF X185 hx hby hZ hown (host := "") (Or.inl (own_w hw 107 rfl)) Via.refl e185 F187_values d_87_2__107 (pc' := 110) rfl ?_
    intro T198 X198 e198
    refine own_aloadN X198 hx hby d_87_2__110 rfl rfl (pc' := 111) rfl ?_
    refine own_dup X198 hx hby d_87_2__111 rfl (pc' := 112) rfl ?_
    refine own_getF X198 hx hby hZ hown (host := "") (Or.inl (own_w hw 179 rfl)) Via.refl e198 F188_length d_87_2__112 (pc' := 115) rfl ?_
    intro T199 X199 e199
    refine own_dup_x1 X199 hx hby d_87_2__115 rfl rfl (pc' := 116) rfl ?_
    refine own_iconst X199 hx hby d_87_2__116 (v := (1 : Int32)) rfl (pc' := 117) rfl ?_
    refine own_iadd X199 hx hby d_87_2__117 (pc' := 118) rfl ?_
    show GoP p e below Φ (T199.setTop (mkF m 118 #[.val (.ref p1), .val (.ref mk), .val (.ref cp), .val (.int (2 : Int32)), .val (.int (2 : Int32)), .val (.int (1 : Int32)), .val (.int (1 : Int32))] [(.int (2 : Int32)), (.ref p1), (.int (1 : Int32)), (.ref b127)]))
    refine own_putF X199 hx hby hZ hown (host := "") (Or.inl (own_w hw 179 rfl)) Via.refl e199 F188_length E186_p1 (Or.inl (own_w hw 180 rfl)) (own_w hw 101 rfl) (ty := .int) (by decide) rfl rfl d_87_2__118 (pc' := 121) rfl ?_
    intro T200 h200 X200 e200 W200
    have E201_p1 := E186_p1.wr W200
    have F202_values := F187_values.other W200 (Or.inr (slot_ne (Or.inl (own_w hw 108 rfl)) (Or.inl (own_w hw 180 rfl)) (by decide) (t := (.array .int)) (t' := .int) (by decide) (by decide)))
    have F203_length := F188_length.same W200
    have V204_hv := V189_hv.other W200 ne_hv
    have V205_cp := V190_cp.other W200 ne_cp
    have E206_mk := E191_mk.wr W200
    have F207_marked := F192_marked.other W200 (Or.inl ne_mk)
    have F208_counts := F193_counts.other W200 (Or.inl ne_mk)
    have F209_markedCount := F194_markedCount.other W200 (Or.inl ne_mk)
    have V210_ct := V195_ct.other W200 ne_ct
    have V211_b127 := V185.other W200 (Ne.symm ne_p1_b127)
    have E212_b127 := E197_b127.wr W200
    have Z200 : n0 ≤ h200.size := by rw [W200.size]; exact Z185
    have N200 := Fr.snoc X200 N185 n0_p1
    have K200 : Keep h0 h200 [p1] := K185.wr W200 (Or.inl (List.mem_of_getElem? (i := 0) rfl))
    refine own_aloadN X200 hx hby d_87_2__121 rfl rfl (pc' := 122) rfl ?_
    refine own_iload X200 hx hby d_87_2__122 rfl (pc' := 124) rfl ?_
    refine own_callV X200 hx hby hZ (by exact hml) hown (own_w hw 183 rfl) (own_w hw 147 rfl) (own_w hw 149 rfl) (own_w hw 148 rfl) (own_w hw 4 rfl) (own_w hw 150 rfl) (by decide) e200 2 (by decide) (by decide) (by decide) (by decide) (argsL := [(.int (1 : Int32))]) (rest := [(.int (1 : Int32)), (.ref b127)]) (lenOf pd__I_I rfl) rfl (Nat.le_of_eq rfl) E206_mk (rmET1 l Z a0 hw mk ct x y h200 F208_counts V210_ct) d_87_2__124 (pc' := 127) rfl ?_
    intro v213 T213 L213 X213 hQ213
    obtain ⟨rfl, rfl, e213⟩ := hQ213
    rw [List.append_nil] at X213
    replace e213 : T213.heap = h200 := e213
    show GoP p e below Φ (T213.setTop (mkF m 127 #[.val (.ref p1), .val (.ref mk), .val (.ref cp), .val (.int (2 : Int32)), .val (.int (2 : Int32)), .val (.int (1 : Int32)), .val (.int (1 : Int32))] [(.int y), (.int (1 : Int32)), (.ref b127)]))
    refine own_iastore X213 hx hby hZ e213 V211_b127 (by decide) (Nat.le_of_ble_eq_true rfl) d_87_2__127 (pc' := 128) rfl ?_
    intro T214 h214 X214 e214 W214 V214
    replace V214 : AV Z h214 b127 .int [(.int (1 : Int32)), (.int y)] := V214
    have E215_p1 := E201_p1.wr W214
    have F216_values := F202_values.other W214 (Or.inl ne_p1_b127)
    have F217_length := F203_length.other W214 (Or.inl ne_p1_b127)
    have V218_hv := V204_hv.other W214 ne_hv_b127
    have V219_cp := V205_cp.other W214 ne_cp_b127
    have E220_mk := E206_mk.wr W214
    have F221_marked := F207_marked.other W214 (Or.inl ne_mk_b127)
    have F222_counts := F208_counts.other W214 (Or.inl ne_mk_b127)
    have F223_markedCount := F209_markedCount.other W214 (Or.inl ne_mk_b127)
    have V224_ct := V210_ct.other W214 ne_ct_b127
    have E226_b127 := E212_b127.wr W214
    have Z214 : n0 ≤ h214.size := by rw [W214.size]; exact Z200
    have N214 := Fr.snoc X214 N200 n0_b127
    have K214 : Keep h0 h214 [p1] := K200.wr W214 (Or.inr sz_b127)
    refine own_iinc X214 hx hby d_87_2__128 rfl (v := (1 : Int32)) rfl (Ls' := #[.val (.ref p1), .val (.ref mk), .val (.ref cp), .val (.int (2 : Int32)), .val (.int (2 : Int32)), .val (.int (2 : Int32)), .val (.int (1 : Int32))]) rfl (pc' := 131) rfl ?_
    refine own_goto X214 hx hby d_87_2__131 (by decide) (pc' := 48) (by decide) ?_
    refine own_iload X214 hx hby d_87_2__48 rfl (pc' := 50) rfl ?_
    refine own_aloadN X214 hx hby d_87_2__50 rfl rfl (pc' := 51) rfl ?_
    refine own_callV X214 hx hby hZ (by exact hml) hown (own_w hw 181 rfl) (own_w hw 137 rfl) (own_w hw 139 rfl) (own_w hw 138 rfl) (own_w hw 4 rfl) (own_w hw 140 rfl) (by decide) e214 1 (by decide) (by decide) (by decide) (by decide) (argsL := []) (rest := [(.int (2 : Int32))]) (lenOf pd___I rfl) rfl (Nat.le_of_eq rfl) E220_mk (rmEn2 l Z a0 hw mk ct x y h214 F222_counts V224_ct) d_87_2__51 (pc' := 54) rfl ?_
    intro v227 T227 L227 X227 hQ227
    obtain ⟨rfl, rfl, e227⟩ := hQ227
    rw [List.append_nil] at X227
    replace e227 : T227.heap = h214 := e227
    show GoP p e below Φ (T227.setTop (mkF m 54 #[.val (.ref p1), .val (.ref mk), .val (.ref cp), .val (.int (2 : Int32)), .val (.int (2 : Int32)), .val (.int (2 : Int32)), .val (.int (1 : Int32))] [(.int (2 : Int32)), (.int (2 : Int32))]))
    refine own_icmpY X227 hx hby d_87_2__54 (flt (by decide)).2.1 (by decide) (pc' := 134) (by decide) ?_
    exact own_ret0 X227 hx hby fin hret d_87_2__134 (by decide) (by decide) (by rw [(show own_pl x y = (2 : Int32) from (by rw [own_pl, if_neg h1, if_pos h2]; decide)), (show own_pr x y = [(.int (1 : Int32)), (.int y)] from (by rw [own_pr, if_neg h1, if_pos h2]; rfl))]; rw [e227]; exact ⟨rfl, N214, K214, b127, E215_p1, F216_values, F217_length, V214⟩)
  · refine own_iconst X hx hby d_87_2__0 (v := (2 : Int32)) rfl (pc' := 1) rfl ?_
    refine own_aloadN X hx hby d_87_2__1 rfl rfl (pc' := 2) rfl ?_
    refine own_callV X hx hby hZ (by exact hml) hown (own_w hw 170 rfl) (own_w hw 171 rfl) (own_w hw 173 rfl) (own_w hw 172 rfl) (own_w hw 4 rfl) (own_w hw 174 rfl) (by decide) eT 1 (by decide) (by decide) (by decide) (by decide) (argsL := []) (rest := [(.int (2 : Int32))]) (lenOf pd___I rfl) rfl (Nat.le_of_eq rfl) Em (rmMd l Z a0 hw mk (2 : Int32) h0 Fk) d_87_2__2 (pc' := 5) rfl ?_
    intro v228 T228 L228 X228 hQ228
    obtain ⟨rfl, rfl, e228⟩ := hQ228
    rw [List.append_nil] at X228
    replace e228 : T228.heap = h0 := e228
    show GoP p e below Φ (T228.setTop (mkF m 5 #[.val (.ref p1), .val (.ref mk), .val (.ref cp), .val (.int (2 : Int32)), .unset, .unset, .unset] [(.int (2 : Int32)), (.int (2 : Int32))]))
    refine own_iloadN X228 hx hby d_87_2__5 rfl (pc' := 6) rfl ?_
    refine own_callS X228 hx hby hZ (by exact hml) hown (own_w hw 175 rfl) (own_w hw 176 rfl) (own_w hw 117 rfl) (own_w hw 177 rfl) (by decide) e228 1 (by decide) (by decide) (by decide) (by decide) (argsL := [(.int (2 : Int32)), (.int (2 : Int32))]) (rest := [(.int (2 : Int32))]) (lenOf pd__II_I rfl) rfl (rmMn l Z a0 hw (2 : Int32) h0 (by decide)) (Nat.le_of_eq rfl) d_87_2__6 (pc' := 9) rfl ?_
    intro v229 T229 L229 X229 hQ229
    obtain ⟨rfl, rfl, e229⟩ := hQ229
    rw [List.append_nil] at X229
    replace e229 : T229.heap = h0 := e229
    show GoP p e below Φ (T229.setTop (mkF m 9 #[.val (.ref p1), .val (.ref mk), .val (.ref cp), .val (.int (2 : Int32)), .unset, .unset, .unset] [(.int (2 : Int32)), (.int (2 : Int32))]))
    refine own_imul X229 hx hby d_87_2__9 (pc' := 10) rfl ?_
    show GoP p e below Φ (T229.setTop (mkF m 10 #[.val (.ref p1), .val (.ref mk), .val (.ref cp), .val (.int (2 : Int32)), .unset, .unset, .unset] [(.int (4 : Int32))]))
    refine own_istore X229 hx hby d_87_2__10  (Ls' := #[.val (.ref p1), .val (.ref mk), .val (.ref cp), .val (.int (2 : Int32)), .val (.int (4 : Int32)), .unset, .unset]) rfl (pc' := 12) rfl ?_
    refine own_aloadN X229 hx hby d_87_2__12 rfl rfl (pc' := 13) rfl ?_
    refine own_getF X229 hx hby hZ hown (host := "") (Or.inl (own_w hw 107 rfl)) Via.refl e229 F1 d_87_2__13 (pc' := 16) rfl ?_
    intro T230 X230 e230
    refine own_alen X230 hx hby hZ e230 (n := (0 : Int32)) V rfl d_87_2__16 (pc' := 17) rfl ?_
    refine own_iload X230 hx hby d_87_2__17 rfl (pc' := 19) rfl ?_
    refine own_icmpN X230 hx hby d_87_2__19 (tlt (by decide)).2.1 (pc' := 22) rfl ?_
    refine own_aloadN X230 hx hby d_87_2__22 rfl rfl (pc' := 23) rfl ?_
    refine own_iload X230 hx hby d_87_2__23 rfl (pc' := 25) rfl ?_
    refine own_iconst X230 hx hby d_87_2__25 (v := (2 : Int32)) rfl (pc' := 26) rfl ?_
    refine own_aloadN X230 hx hby d_87_2__26 rfl rfl (pc' := 27) rfl ?_
    refine own_getF X230 hx hby hZ hown (host := "") (Or.inl (own_w hw 107 rfl)) Via.refl e230 F1 d_87_2__27 (pc' := 30) rfl ?_
    intro T231 X231 e231
    refine own_alen X231 hx hby hZ e231 (n := (0 : Int32)) V rfl d_87_2__30 (pc' := 31) rfl ?_
    refine own_imul X231 hx hby d_87_2__31 (pc' := 32) rfl ?_
    show GoP p e below Φ (T231.setTop (mkF m 32 #[.val (.ref p1), .val (.ref mk), .val (.ref cp), .val (.int (2 : Int32)), .val (.int (4 : Int32)), .unset, .unset] [(.int (0 : Int32)), (.int (4 : Int32)), (.ref p1)]))
    refine own_callS X231 hx hby hZ (by exact hml) hown (own_w hw 178 rfl) (own_w hw 116 rfl) (own_w hw 117 rfl) (own_w hw 118 rfl) (by decide) e231 1 (by decide) (by decide) (by decide) (by decide) (argsL := [(.int (4 : Int32)), (.int (0 : Int32))]) (rest := [(.ref p1)]) (lenOf pd__II_I rfl) rfl (rmMx_4_0 l Z a0 hw h0) (Nat.le_of_eq rfl) d_87_2__32 (pc' := 35) rfl ?_
    intro v232 T232 L232 X232 hQ232
    obtain ⟨rfl, rfl, e232⟩ := hQ232
    rw [List.append_nil] at X232
    replace e232 : T232.heap = h0 := e232
    show GoP p e below Φ (T232.setTop (mkF m 35 #[.val (.ref p1), .val (.ref mk), .val (.ref cp), .val (.int (2 : Int32)), .val (.int (4 : Int32)), .unset, .unset] [(.int (4 : Int32)), (.ref p1)]))
    refine own_newI X232 hx hby hZ (own_w hw 1 rfl) e232 (by decide) 4 (by decide) (by decide) (by decide) (by decide) d_87_2__35 (pc' := 37) rfl ?_
    intro T233 h233 b233 X233 e233 E233 g233 V233 I233 A233
    have ne_p1_b233 : p1 ≠ b233 := Nat.ne_of_lt (g233 ▸ E.lt)
    have ne_hv_b233 : hv ≠ b233 := Nat.ne_of_lt (g233 ▸ V.lt)
    have ne_cp_b233 : cp ≠ b233 := Nat.ne_of_lt (g233 ▸ Vp.lt)
    have ne_mk_b233 : mk ≠ b233 := Nat.ne_of_lt (g233 ▸ Em.lt)
    have ne_ct_b233 : ct ≠ b233 := Nat.ne_of_lt (g233 ▸ Vm.lt)
    have E234_p1 := E.ext E233
    have F235_values := F1.ext E233
    have F236_length := F2.ext E233
    have V237_hv := V.ext E233
    have V238_cp := Vp.ext E233
    have E239_mk := Em.ext E233
    have F240_marked := Fm.ext E233
    have F241_counts := Fc.ext E233
    have F242_markedCount := Fk.ext E233
    have V243_ct := Vm.ext E233
    have Z233 : n0 ≤ h233.size := Nat.le_trans Z0 E233.1
    have n0_b233 : n0 ≤ b233 := g233 ▸ Z0
    have sz_b233 : h0.size ≤ b233 := g233 ▸ K0.1
    have K233 : Keep h0 h233 [p1] := K0.ext E233
    replace V233 : AV Z h233 b233 .int [(.int (0 : Int32)), (.int (0 : Int32)), (.int (0 : Int32)), (.int (0 : Int32))] := V233
    show GoP p e below Φ (T233.setTop (mkF m 37 #[.val (.ref p1), .val (.ref mk), .val (.ref cp), .val (.int (2 : Int32)), .val (.int (4 : Int32)), .unset, .unset] [(.ref b233), (.ref p1)]))
    refine own_putF X233 hx hby hZ hown (host := "") (Or.inl (own_w hw 107 rfl)) Via.refl e233 F235_values E234_p1 (Or.inl (own_w hw 108 rfl)) (own_w hw 101 rfl) (ty := (.array .int)) (by decide) rfl rfl d_87_2__37 (pc' := 40) rfl ?_
    intro T244 h244 X244 e244 W244
    have E245_p1 := E234_p1.wr W244
    have F246_values := F235_values.same W244
    have F247_length := F236_length.other W244 (Or.inr (slot_ne (Or.inl (own_w hw 180 rfl)) (Or.inl (own_w hw 108 rfl)) (by decide) (t := .int) (t' := (.array .int)) (by decide) (by decide)))
    have V248_hv := V237_hv.other W244 ne_hv
    have V249_cp := V238_cp.other W244 ne_cp
    have E250_mk := E239_mk.wr W244
    have F251_marked := F240_marked.other W244 (Or.inl ne_mk)
    have F252_counts := F241_counts.other W244 (Or.inl ne_mk)
    have F253_markedCount := F242_markedCount.other W244 (Or.inl ne_mk)
    have V254_ct := V243_ct.other W244 ne_ct
    have V255_b233 := V233.other W244 (Ne.symm ne_p1_b233)
    have E256_b233 := A233.wr W244
    have Z244 : n0 ≤ h244.size := by rw [W244.size]; exact Z233
    have N244 := Fr.snoc X244 N0 n0_p1
    have K244 : Keep h0 h244 [p1] := K233.wr W244 (Or.inl (List.mem_of_getElem? (i := 0) rfl))
    refine own_aloadN X244 hx hby d_87_2__40 rfl rfl (pc' := 41) rfl ?_
    refine own_iconst X244 hx hby d_87_2__41 (v := (0 : Int32)) rfl (pc' := 42) rfl ?_
    refine own_putF X244 hx hby hZ hown (host := "") (Or.inl (own_w hw 179 rfl)) Via.refl e244 F247_length E245_p1 (Or.inl (own_w hw 180 rfl)) (own_w hw 101 rfl) (ty := .int) (by decide) rfl rfl d_87_2__42 (pc' := 45) rfl ?_
    intro T257 h257 X257 e257 W257
    have E258_p1 := E245_p1.wr W257
    have F259_values := F246_values.other W257 (Or.inr (slot_ne (Or.inl (own_w hw 108 rfl)) (Or.inl (own_w hw 180 rfl)) (by decide) (t := (.array .int)) (t' := .int) (by decide) (by decide)))
    have F260_length := F247_length.same W257
    have V261_hv := V248_hv.other W257 ne_hv
    have V262_cp := V249_cp.other W257 ne_cp
    have E263_mk := E250_mk.wr W257
    have F264_marked := F251_marked.other W257 (Or.inl ne_mk)
    have F265_counts := F252_counts.other W257 (Or.inl ne_mk)
    have F266_markedCount := F253_markedCount.other W257 (Or.inl ne_mk)
    have V267_ct := V254_ct.other W257 ne_ct
    have V268_b233 := V255_b233.other W257 (Ne.symm ne_p1_b233)
    have E269_b233 := E256_b233.wr W257
    have Z257 : n0 ≤ h257.size := by rw [W257.size]; exact Z244
    have N257 := Fr.snoc X257 N244 n0_p1
    have K257 : Keep h0 h257 [p1] := K244.wr W257 (Or.inl (List.mem_of_getElem? (i := 0) rfl))
    refine own_iconst X257 hx hby d_87_2__45 (v := (0 : Int32)) rfl (pc' := 46) rfl ?_
    refine own_istore X257 hx hby d_87_2__46  (Ls' := #[.val (.ref p1), .val (.ref mk), .val (.ref cp), .val (.int (2 : Int32)), .val (.int (4 : Int32)), .val (.int (0 : Int32)), .unset]) rfl (pc' := 48) rfl ?_
    refine own_iload X257 hx hby d_87_2__48 rfl (pc' := 50) rfl ?_
    refine own_aloadN X257 hx hby d_87_2__50 rfl rfl (pc' := 51) rfl ?_
    refine own_callV X257 hx hby hZ (by exact hml) hown (own_w hw 181 rfl) (own_w hw 137 rfl) (own_w hw 139 rfl) (own_w hw 138 rfl) (own_w hw 4 rfl) (own_w hw 140 rfl) (by decide) e257 1 (by decide) (by decide) (by decide) (by decide) (argsL := []) (rest := [(.int (0 : Int32))]) (lenOf pd___I rfl) rfl (Nat.le_of_eq rfl) E263_mk (rmEn2 l Z a0 hw mk ct x y h257 F265_counts V267_ct) d_87_2__51 (pc' := 54) rfl ?_
    intro v270 T270 L270 X270 hQ270
    obtain ⟨rfl, rfl, e270⟩ := hQ270
    rw [List.append_nil] at X270
    replace e270 : T270.heap = h257 := e270
    show GoP p e below Φ (T270.setTop (mkF m 54 #[.val (.ref p1), .val (.ref mk), .val (.ref cp), .val (.int (2 : Int32)), .val (.int (4 : Int32)), .val (.int (0 : Int32)), .unset] [(.int (2 : Int32)), (.int (0 : Int32))]))
    refine own_icmpN X270 hx hby d_87_2__54 (tlt (by decide)).2.1 (pc' := 57) rfl ?_
    refine own_aloadN X270 hx hby d_87_2__57 rfl rfl (pc' := 58) rfl ?_
    refine own_iload X270 hx hby d_87_2__58 rfl (pc' := 60) rfl ?_
    refine own_callV X270 hx hby hZ (by exact hml) hown (own_w hw 182 rfl) (own_w hw 142 rfl) (own_w hw 144 rfl) (own_w hw 143 rfl) (own_w hw 4 rfl) (own_w hw 145 rfl) (by decide) e270 0 (by decide) (by decide) (by decide) (by decide) (argsL := [(.int (0 : Int32))]) (rest := []) (lenOf pd__I_I rfl) rfl (Nat.le_of_eq rfl) E263_mk (rmEP l Z a0 hw mk (0 : Int32) h257 F264_marked) d_87_2__60 (pc' := 63) rfl ?_
    intro v271 T271 L271 X271 hQ271
    obtain ⟨rfl, rfl, e271⟩ := hQ271
    rw [List.append_nil] at X271
    replace e271 : T271.heap = h257 := e271
    show GoP p e below Φ (T271.setTop (mkF m 63 #[.val (.ref p1), .val (.ref mk), .val (.ref cp), .val (.int (2 : Int32)), .val (.int (4 : Int32)), .val (.int (0 : Int32)), .unset] [(.int (0 : Int32))]))
    refine own_istore X271 hx hby d_87_2__63  (Ls' := #[.val (.ref p1), .val (.ref mk), .val (.ref cp), .val (.int (2 : Int32)), .val (.int (4 : Int32)), .val (.int (0 : Int32)), .val (.int (0 : Int32))]) rfl (pc' := 65) rfl ?_
    refine own_aloadN X271 hx hby d_87_2__65 rfl rfl (pc' := 66) rfl ?_
    refine own_iload X271 hx hby d_87_2__66 rfl (pc' := 68) rfl ?_
    refine own_callV X271 hx hby hZ (by exact hml) hown (own_w hw 183 rfl) (own_w hw 147 rfl) (own_w hw 149 rfl) (own_w hw 148 rfl) (own_w hw 4 rfl) (own_w hw 150 rfl) (by decide) e271 0 (by decide) (by decide) (by decide) (by decide) (argsL := [(.int (0 : Int32))]) (rest := []) (lenOf pd__I_I rfl) rfl (Nat.le_of_eq rfl) E263_mk (rmET0 l Z a0 hw mk ct x y h257 F265_counts V267_ct) d_87_2__68 (pc' := 71) rfl ?_
    intro v272 T272 L272 X272 hQ272
    obtain ⟨rfl, rfl, e272⟩ := hQ272
    rw [List.append_nil] at X272
    replace e272 : T272.heap = h257 := e272
    show GoP p e below Φ (T272.setTop (mkF m 71 #[.val (.ref p1), .val (.ref mk), .val (.ref cp), .val (.int (2 : Int32)), .val (.int (4 : Int32)), .val (.int (0 : Int32)), .val (.int (0 : Int32))] [(.int x)]))
    refine own_ifN X272 hx hby d_87_2__71 ((if0 _ _).trans (tlt h1).2.2.2) (pc' := 74) rfl ?_
    refine own_iload X272 hx hby d_87_2__74 rfl (pc' := 76) rfl ?_
    refine own_aloadN X272 hx hby d_87_2__76 rfl rfl (pc' := 77) rfl ?_
    refine own_alen X272 hx hby hZ e272 (n := (2 : Int32)) V262_cp rfl d_87_2__77 (pc' := 78) rfl ?_
    refine own_icmpN X272 hx hby d_87_2__78 (tlt (by decide)).2.1 (pc' := 81) rfl ?_
    refine own_aloadN X272 hx hby d_87_2__81 rfl rfl (pc' := 82) rfl ?_
    refine own_iload X272 hx hby d_87_2__82 rfl (pc' := 84) rfl ?_
    refine own_baloadZ X272 hx hby hZ e272 V262_cp (by decide) (v := (.int (1 : Int32))) rfl d_87_2__84 (pc' := 85) rfl ?_
    refine own_ifN X272 hx hby d_87_2__85 ((if0 _ _).trans (feq (by decide)).1) (pc' := 88) rfl ?_
    refine own_aloadN X272 hx hby d_87_2__88 rfl rfl (pc' := 89) rfl ?_
    refine own_getF X272 hx hby hZ hown (host := "") (Or.inl (own_w hw 107 rfl)) Via.refl e272 F259_values d_87_2__89 (pc' := 92) rfl ?_
    intro T273 X273 e273
    refine own_aloadN X273 hx hby d_87_2__92 rfl rfl (pc' := 93) rfl ?_
    refine own_dup X273 hx hby d_87_2__93 rfl (pc' := 94) rfl ?_
    refine own_getF X273 hx hby hZ hown (host := "") (Or.inl (own_w hw 179 rfl)) Via.refl e273 F260_length d_87_2__94 (pc' := 97) rfl ?_
    intro T274 X274 e274
    refine own_dup_x1 X274 hx hby d_87_2__97 rfl rfl (pc' := 98) rfl ?_
    refine own_iconst X274 hx hby d_87_2__98 (v := (1 : Int32)) rfl (pc' := 99) rfl ?_
    refine own_iadd X274 hx hby d_87_2__99 (pc' := 100) rfl ?_
    show GoP p e below Φ (T274.setTop (mkF m 100 #[.val (.ref p1), .val (.ref mk), .val (.ref cp), .val (.int (2 : Int32)), .val (.int (4 : Int32)), .val (.int (0 : Int32)), .val (.int (0 : Int32))] [(.int (1 : Int32)), (.ref p1), (.int (0 : Int32)), (.ref b233)]))
    refine own_putF X274 hx hby hZ hown (host := "") (Or.inl (own_w hw 179 rfl)) Via.refl e274 F260_length E258_p1 (Or.inl (own_w hw 180 rfl)) (own_w hw 101 rfl) (ty := .int) (by decide) rfl rfl d_87_2__100 (pc' := 103) rfl ?_
    intro T275 h275 X275 e275 W275
    have E276_p1 := E258_p1.wr W275
    have F277_values := F259_values.other W275 (Or.inr (slot_ne (Or.inl (own_w hw 108 rfl)) (Or.inl (own_w hw 180 rfl)) (by decide) (t := (.array .int)) (t' := .int) (by decide) (by decide)))
    have F278_length := F260_length.same W275
    have V279_hv := V261_hv.other W275 ne_hv
    have V280_cp := V262_cp.other W275 ne_cp
    have E281_mk := E263_mk.wr W275
    have F282_marked := F264_marked.other W275 (Or.inl ne_mk)
    have F283_counts := F265_counts.other W275 (Or.inl ne_mk)
    have F284_markedCount := F266_markedCount.other W275 (Or.inl ne_mk)
    have V285_ct := V267_ct.other W275 ne_ct
    have V286_b233 := V268_b233.other W275 (Ne.symm ne_p1_b233)
    have E287_b233 := E269_b233.wr W275
    have Z275 : n0 ≤ h275.size := by rw [W275.size]; exact Z257
    have N275 := Fr.snoc X275 N257 n0_p1
    have K275 : Keep h0 h275 [p1] := K257.wr W275 (Or.inl (List.mem_of_getElem? (i := 0) rfl))
    refine own_iload X275 hx hby d_87_2__103 rfl (pc' := 105) rfl ?_
    refine own_iastore X275 hx hby hZ e275 V286_b233 (by decide) (Nat.le_of_ble_eq_true rfl) d_87_2__105 (pc' := 106) rfl ?_
    intro T288 h288 X288 e288 W288 V288
    replace V288 : AV Z h288 b233 .int [(.int (0 : Int32)), (.int (0 : Int32)), (.int (0 : Int32)), (.int (0 : Int32))] := V288
    have E289_p1 := E276_p1.wr W288
    have F290_values := F277_values.other W288 (Or.inl ne_p1_b233)
    have F291_length := F278_length.other W288 (Or.inl ne_p1_b233)
    have V292_hv := V279_hv.other W288 ne_hv_b233
    have V293_cp := V280_cp.other W288 ne_cp_b233
    have E294_mk := E281_mk.wr W288
    have F295_marked := F282_marked.other W288 (Or.inl ne_mk_b233)
    have F296_counts := F283_counts.other W288 (Or.inl ne_mk_b233)
    have F297_markedCount := F284_markedCount.other W288 (Or.inl ne_mk_b233)
    have V298_ct := V285_ct.other W288 ne_ct_b233
    have E300_b233 := E287_b233.wr W288
    have Z288 : n0 ≤ h288.size := by rw [W288.size]; exact Z275
    have N288 := Fr.snoc X288 N275 n0_b233
    have K288 : Keep h0 h288 [p1] := K275.wr W288 (Or.inr sz_b233)
    refine own_aloadN X288 hx hby d_87_2__106 rfl rfl (pc' := 107) rfl ?_
    refine own_getF X288 hx hby hZ hown (host := "") (Or.inl (own_w hw 107 rfl)) Via.refl e288 F290_values d_87_2__107 (pc' := 110) rfl ?_
    intro T301 X301 e301
    refine own_aloadN X301 hx hby d_87_2__110 rfl rfl (pc' := 111) rfl ?_
    refine own_dup X301 hx hby d_87_2__111 rfl (pc' := 112) rfl ?_
    refine own_getF X301 hx hby hZ hown (host := "") (Or.inl (own_w hw 179 rfl)) Via.refl e301 F291_length d_87_2__112 (pc' := 115) rfl ?_
    intro T302 X302 e302
    refine own_dup_x1 X302 hx hby d_87_2__115 rfl rfl (pc' := 116) rfl ?_
    refine own_iconst X302 hx hby d_87_2__116 (v := (1 : Int32)) rfl (pc' := 117) rfl ?_
    refine own_iadd X302 hx hby d_87_2__117 (pc' := 118) rfl ?_
    show GoP p e below Φ (T302.setTop (mkF m 118 #[.val (.ref p1), .val (.ref mk), .val (.ref cp), .val (.int (2 : Int32)), .val (.int (4 : Int32)), .val (.int (0 : Int32)), .val (.int (0 : Int32))] [(.int (2 : Int32)), (.ref p1), (.int (1 : Int32)), (.ref b233)]))
    refine own_putF X302 hx hby hZ hown (host := "") (Or.inl (own_w hw 179 rfl)) Via.refl e302 F291_length E289_p1 (Or.inl (own_w hw 180 rfl)) (own_w hw 101 rfl) (ty := .int) (by decide) rfl rfl d_87_2__118 (pc' := 121) rfl ?_
    intro T303 h303 X303 e303 W303
    have E304_p1 := E289_p1.wr W303
    have F305_values := F290_values.other W303 (Or.inr (slot_ne (Or.inl (own_w hw 108 rfl)) (Or.inl (own_w hw 180 rfl)) (by decide) (t := (.array .int)) (t' := .int) (by decide) (by decide)))
    have F306_length := F291_length.same W303
    have V307_hv := V292_hv.other W303 ne_hv
    have V308_cp := V293_cp.other W303 ne_cp
    have E309_mk := E294_mk.wr W303
    have F310_marked := F295_marked.other W303 (Or.inl ne_mk)
    have F311_counts := F296_counts.other W303 (Or.inl ne_mk)
    have F312_markedCount := F297_markedCount.other W303 (Or.inl ne_mk)
    have V313_ct := V298_ct.other W303 ne_ct
    have V314_b233 := V288.other W303 (Ne.symm ne_p1_b233)
    have E315_b233 := E300_b233.wr W303
    have Z303 : n0 ≤ h303.size := by rw [W303.size]; exact Z288
    have N303 := Fr.snoc X303 N288 n0_p1
    have K303 : Keep h0 h303 [p1] := K288.wr W303 (Or.inl (List.mem_of_getElem? (i := 0) rfl))
    refine own_aloadN X303 hx hby d_87_2__121 rfl rfl (pc' := 122) rfl ?_
    refine own_iload X303 hx hby d_87_2__122 rfl (pc' := 124) rfl ?_
    refine own_callV X303 hx hby hZ (by exact hml) hown (own_w hw 183 rfl) (own_w hw 147 rfl) (own_w hw 149 rfl) (own_w hw 148 rfl) (own_w hw 4 rfl) (own_w hw 150 rfl) (by decide) e303 2 (by decide) (by decide) (by decide) (by decide) (argsL := [(.int (0 : Int32))]) (rest := [(.int (1 : Int32)), (.ref b233)]) (lenOf pd__I_I rfl) rfl (Nat.le_of_eq rfl) E309_mk (rmET0 l Z a0 hw mk ct x y h303 F311_counts V313_ct) d_87_2__124 (pc' := 127) rfl ?_
    intro v316 T316 L316 X316 hQ316
    obtain ⟨rfl, rfl, e316⟩ := hQ316
    rw [List.append_nil] at X316
    replace e316 : T316.heap = h303 := e316
    show GoP p e below Φ (T316.setTop (mkF m 127 #[.val (.ref p1), .val (.ref mk), .val (.ref cp), .val (.int (2 : Int32)), .val (.int (4 : Int32)), .val (.int (0 : Int32)), .val (.int (0 : Int32))] [(.int x), (.int (1 : Int32)), (.ref b233)]))
    refine own_iastore X316 hx hby hZ e316 V314_b233 (by decide) (Nat.le_of_ble_eq_true rfl) d_87_2__127 (pc' := 128) rfl ?_
    intro T317 h317 X317 e317 W317 V317
    replace V317 : AV Z h317 b233 .int [(.int (0 : Int32)), (.int x), (.int (0 : Int32)), (.int (0 : Int32))] := V317
    have E318_p1 := E304_p1.wr W317
    have F319_values := F305_values.other W317 (Or.inl ne_p1_b233)
    have F320_length := F306_length.other W317 (Or.inl ne_p1_b233)
    have V321_hv := V307_hv.other W317 ne_hv_b233
    have V322_cp := V308_cp.other W317 ne_cp_b233
    have E323_mk := E309_mk.wr W317
    have F324_marked := F310_marked.other W317 (Or.inl ne_mk_b233)
    have F325_counts := F311_counts.other W317 (Or.inl ne_mk_b233)
    have F326_markedCount := F312_markedCount.other W317 (Or.inl ne_mk_b233)
    have V327_ct := V313_ct.other W317 ne_ct_b233
    have E329_b233 := E315_b233.wr W317
    have Z317 : n0 ≤ h317.size := by rw [W317.size]; exact Z303
    have N317 := Fr.snoc X317 N303 n0_b233
    have K317 : Keep h0 h317 [p1] := K303.wr W317 (Or.inr sz_b233)
    refine own_iinc X317 hx hby d_87_2__128 rfl (v := (1 : Int32)) rfl (Ls' := #[.val (.ref p1), .val (.ref mk), .val (.ref cp), .val (.int (2 : Int32)), .val (.int (4 : Int32)), .val (.int (1 : Int32)), .val (.int (0 : Int32))]) rfl (pc' := 131) rfl ?_
    refine own_goto X317 hx hby d_87_2__131 (by decide) (pc' := 48) (by decide) ?_
    refine own_iload X317 hx hby d_87_2__48 rfl (pc' := 50) rfl ?_
    refine own_aloadN X317 hx hby d_87_2__50 rfl rfl (pc' := 51) rfl ?_
    refine own_callV X317 hx hby hZ (by exact hml) hown (own_w hw 181 rfl) (own_w hw 137 rfl) (own_w hw 139 rfl) (own_w hw 138 rfl) (own_w hw 4 rfl) (own_w hw 140 rfl) (by decide) e317 1 (by decide) (by decide) (by decide) (by decide) (argsL := []) (rest := [(.int (1 : Int32))]) (lenOf pd___I rfl) rfl (Nat.le_of_eq rfl) E323_mk (rmEn2 l Z a0 hw mk ct x y h317 F325_counts V327_ct) d_87_2__51 (pc' := 54) rfl ?_
    intro v330 T330 L330 X330 hQ330
    obtain ⟨rfl, rfl, e330⟩ := hQ330
    rw [List.append_nil] at X330
    replace e330 : T330.heap = h317 := e330
    show GoP p e below Φ (T330.setTop (mkF m 54 #[.val (.ref p1), .val (.ref mk), .val (.ref cp), .val (.int (2 : Int32)), .val (.int (4 : Int32)), .val (.int (1 : Int32)), .val (.int (0 : Int32))] [(.int (2 : Int32)), (.int (1 : Int32))]))
    refine own_icmpN X330 hx hby d_87_2__54 (tlt (by decide)).2.1 (pc' := 57) rfl ?_
    refine own_aloadN X330 hx hby d_87_2__57 rfl rfl (pc' := 58) rfl ?_
    refine own_iload X330 hx hby d_87_2__58 rfl (pc' := 60) rfl ?_
    refine own_callV X330 hx hby hZ (by exact hml) hown (own_w hw 182 rfl) (own_w hw 142 rfl) (own_w hw 144 rfl) (own_w hw 143 rfl) (own_w hw 4 rfl) (own_w hw 145 rfl) (by decide) e330 0 (by decide) (by decide) (by decide) (by decide) (argsL := [(.int (1 : Int32))]) (rest := []) (lenOf pd__I_I rfl) rfl (Nat.le_of_eq rfl) E323_mk (rmEP l Z a0 hw mk (1 : Int32) h317 F324_marked) d_87_2__60 (pc' := 63) rfl ?_
    intro v331 T331 L331 X331 hQ331
    obtain ⟨rfl, rfl, e331⟩ := hQ331
    rw [List.append_nil] at X331
    replace e331 : T331.heap = h317 := e331
    show GoP p e below Φ (T331.setTop (mkF m 63 #[.val (.ref p1), .val (.ref mk), .val (.ref cp), .val (.int (2 : Int32)), .val (.int (4 : Int32)), .val (.int (1 : Int32)), .val (.int (0 : Int32))] [(.int (1 : Int32))]))
    refine own_istore X331 hx hby d_87_2__63  (Ls' := #[.val (.ref p1), .val (.ref mk), .val (.ref cp), .val (.int (2 : Int32)), .val (.int (4 : Int32)), .val (.int (1 : Int32)), .val (.int (1 : Int32))]) rfl (pc' := 65) rfl ?_
    refine own_aloadN X331 hx hby d_87_2__65 rfl rfl (pc' := 66) rfl ?_
    refine own_iload X331 hx hby d_87_2__66 rfl (pc' := 68) rfl ?_
    refine own_callV X331 hx hby hZ (by exact hml) hown (own_w hw 183 rfl) (own_w hw 147 rfl) (own_w hw 149 rfl) (own_w hw 148 rfl) (own_w hw 4 rfl) (own_w hw 150 rfl) (by decide) e331 0 (by decide) (by decide) (by decide) (by decide) (argsL := [(.int (1 : Int32))]) (rest := []) (lenOf pd__I_I rfl) rfl (Nat.le_of_eq rfl) E323_mk (rmET1 l Z a0 hw mk ct x y h317 F325_counts V327_ct) d_87_2__68 (pc' := 71) rfl ?_
    intro v332 T332 L332 X332 hQ332
    obtain ⟨rfl, rfl, e332⟩ := hQ332
    rw [List.append_nil] at X332
    replace e332 : T332.heap = h317 := e332
    show GoP p e below Φ (T332.setTop (mkF m 71 #[.val (.ref p1), .val (.ref mk), .val (.ref cp), .val (.int (2 : Int32)), .val (.int (4 : Int32)), .val (.int (1 : Int32)), .val (.int (1 : Int32))] [(.int y)]))
    refine own_ifN X332 hx hby d_87_2__71 ((if0 _ _).trans (tlt h2).2.2.2) (pc' := 74) rfl ?_
    refine own_iload X332 hx hby d_87_2__74 rfl (pc' := 76) rfl ?_
    refine own_aloadN X332 hx hby d_87_2__76 rfl rfl (pc' := 77) rfl ?_
    refine own_alen X332 hx hby hZ e332 (n := (2 : Int32)) V322_cp rfl d_87_2__77 (pc' := 78) rfl ?_
    refine own_icmpN X332 hx hby d_87_2__78 (tlt (by decide)).2.1 (pc' := 81) rfl ?_
    refine own_aloadN X332 hx hby d_87_2__81 rfl rfl (pc' := 82) rfl ?_
    refine own_iload X332 hx hby d_87_2__82 rfl (pc' := 84) rfl ?_
    refine own_baloadZ X332 hx hby hZ e332 V322_cp (by decide) (v := (.int (1 : Int32))) rfl d_87_2__84 (pc' := 85) rfl ?_
    refine own_ifN X332 hx hby d_87_2__85 ((if0 _ _).trans (feq (by decide)).1) (pc' := 88) rfl ?_
    refine own_aloadN X332 hx hby d_87_2__88 rfl rfl (pc' := 89) rfl ?_
    refine own_getF X332 hx hby hZ hown (host := "") (Or.inl (own_w hw 107 rfl)) Via.refl e332 F319_values d_87_2__89 (pc' := 92) rfl ?_
    intro T333 X333 e333
    refine own_aloadN X333 hx hby d_87_2__92 rfl rfl (pc' := 93) rfl ?_
    refine own_dup X333 hx hby d_87_2__93 rfl (pc' := 94) rfl ?_
    refine own_getF X333 hx hby hZ hown (host := "") (Or.inl (own_w hw 179 rfl)) Via.refl e333 F320_length d_87_2__94 (pc' := 97) rfl ?_
    intro T334 X334 e334
    refine own_dup_x1 X334 hx hby d_87_2__97 rfl rfl (pc' := 98) rfl ?_
    refine own_iconst X334 hx hby d_87_2__98 (v := (1 : Int32)) rfl (pc' := 99) rfl ?_
    refine own_iadd X334 hx hby d_87_2__99 (pc' := 100) rfl ?_
    show GoP p e below Φ (T334.setTop (mkF m 100 #[.val (.ref p1), .val (.ref mk), .val (.ref cp), .val (.int (2 : Int32)), .val (.int (4 : Int32)), .val (.int (1 : Int32)), .val (.int (1 : Int32))] [(.int (3 : Int32)), (.ref p1), (.int (2 : Int32)), (.ref b233)]))
    refine own_putF X334 hx hby hZ hown (host := "") (Or.inl (own_w hw 179 rfl)) Via.refl e334 F320_length E318_p1 (Or.inl (own_w hw 180 rfl)) (own_w hw 101 rfl) (ty := .int) (by decide) rfl rfl d_87_2__100 (pc' := 103) rfl ?_
    intro T335 h335 X335 e335 W335
    have E336_p1 := E318_p1.wr W335
    have F337_values := F319_values.other W335 (Or.inr (slot_ne (Or.inl (own_w hw 108 rfl)) (Or.inl (own_w hw 180 rfl)) (by decide) (t := (.array .int)) (t' := .int) (by decide) (by decide)))
    have F338_length := F320_length.same W335
    have V339_hv := V321_hv.other W335 ne_hv
    have V340_cp := V322_cp.other W335 ne_cp
    have E341_mk := E323_mk.wr W335
    have F342_marked := F324_marked.other W335 (Or.inl ne_mk)
    have F343_counts := F325_counts.other W335 (Or.inl ne_mk)
    have F344_markedCount := F326_markedCount.other W335 (Or.inl ne_mk)
    have V345_ct := V327_ct.other W335 ne_ct
    have V346_b233 := V317.other W335 (Ne.symm ne_p1_b233)
    have E347_b233 := E329_b233.wr W335
    have Z335 : n0 ≤ h335.size := by rw [W335.size]; exact Z317
    have N335 := Fr.snoc X335 N317 n0_p1
    have K335 : Keep h0 h335 [p1] := K317.wr W335 (Or.inl (List.mem_of_getElem? (i := 0) rfl))
    refine own_iload X335 hx hby d_87_2__103 rfl (pc' := 105) rfl ?_
    refine own_iastore X335 hx hby hZ e335 V346_b233 (by decide) (Nat.le_of_ble_eq_true rfl) d_87_2__105 (pc' := 106) rfl ?_
    intro T348 h348 X348 e348 W348 V348
    replace V348 : AV Z h348 b233 .int [(.int (0 : Int32)), (.int x), (.int (1 : Int32)), (.int (0 : Int32))] := V348
    have E349_p1 := E336_p1.wr W348
    have F350_values := F337_values.other W348 (Or.inl ne_p1_b233)
    have F351_length := F338_length.other W348 (Or.inl ne_p1_b233)
    have V352_hv := V339_hv.other W348 ne_hv_b233
    have V353_cp := V340_cp.other W348 ne_cp_b233
    have E354_mk := E341_mk.wr W348
    have F355_marked := F342_marked.other W348 (Or.inl ne_mk_b233)
    have F356_counts := F343_counts.other W348 (Or.inl ne_mk_b233)
    have F357_markedCount := F344_markedCount.other W348 (Or.inl ne_mk_b233)
    have V358_ct := V345_ct.other W348 ne_ct_b233
    have E360_b233 := E347_b233.wr W348
    have Z348 : n0 ≤ h348.size := by rw [W348.size]; exact Z335
    have N348 := Fr.snoc X348 N335 n0_b233
    have K348 : Keep h0 h348 [p1] := K335.wr W348 (Or.inr sz_b233)
    refine own_aloadN X348 hx hby d_87_2__106 rfl rfl (pc' := 107) rfl ?_
    refine own_getF X348 hx hby hZ hown (host := "") (Or.inl (own_w hw 107 rfl)) Via.refl e348 F350_values d_87_2__107 (pc' := 110) rfl ?_
    intro T361 X361 e361
    refine own_aloadN X361 hx hby d_87_2__110 rfl rfl (pc' := 111) rfl ?_
    refine own_dup X361 hx hby d_87_2__111 rfl (pc' := 112) rfl ?_
    refine own_getF X361 hx hby hZ hown (host := "") (Or.inl (own_w hw 179 rfl)) Via.refl e361 F351_length d_87_2__112 (pc' := 115) rfl ?_
    intro T362 X362 e362
    refine own_dup_x1 X362 hx hby d_87_2__115 rfl rfl (pc' := 116) rfl ?_
    refine own_iconst X362 hx hby d_87_2__116 (v := (1 : Int32)) rfl (pc' := 117) rfl ?_
    refine own_iadd X362 hx hby d_87_2__117 (pc' := 118) rfl ?_
    show GoP p e below Φ (T362.setTop (mkF m 118 #[.val (.ref p1), .val (.ref mk), .val (.ref cp), .val (.int (2 : Int32)), .val (.int (4 : Int32)), .val (.int (1 : Int32)), .val (.int (1 : Int32))] [(.int (4 : Int32)), (.ref p1), (.int (3 : Int32)), (.ref b233)]))
    refine own_putF X362 hx hby hZ hown (host := "") (Or.inl (own_w hw 179 rfl)) Via.refl e362 F351_length E349_p1 (Or.inl (own_w hw 180 rfl)) (own_w hw 101 rfl) (ty := .int) (by decide) rfl rfl d_87_2__118 (pc' := 121) rfl ?_
    intro T363 h363 X363 e363 W363
    have E364_p1 := E349_p1.wr W363
    have F365_values := F350_values.other W363 (Or.inr (slot_ne (Or.inl (own_w hw 108 rfl)) (Or.inl (own_w hw 180 rfl)) (by decide) (t := (.array .int)) (t' := .int) (by decide) (by decide)))
    have F366_length := F351_length.same W363
    have V367_hv := V352_hv.other W363 ne_hv
    have V368_cp := V353_cp.other W363 ne_cp
    have E369_mk := E354_mk.wr W363
    have F370_marked := F355_marked.other W363 (Or.inl ne_mk)
    have F371_counts := F356_counts.other W363 (Or.inl ne_mk)
    have F372_markedCount := F357_markedCount.other W363 (Or.inl ne_mk)
    have V373_ct := V358_ct.other W363 ne_ct
    have V374_b233 := V348.other W363 (Ne.symm ne_p1_b233)
    have E375_b233 := E360_b233.wr W363
    have Z363 : n0 ≤ h363.size := by rw [W363.size]; exact Z348
    have N363 := Fr.snoc X363 N348 n0_p1
    have K363 : Keep h0 h363 [p1] := K348.wr W363 (Or.inl (List.mem_of_getElem? (i := 0) rfl))
    refine own_aloadN X363 hx hby d_87_2__121 rfl rfl (pc' := 122) rfl ?_
    refine own_iload X363 hx hby d_87_2__122 rfl (pc' := 124) rfl ?_
    refine own_callV X363 hx hby hZ (by exact hml) hown (own_w hw 183 rfl) (own_w hw 147 rfl) (own_w hw 149 rfl) (own_w hw 148 rfl) (own_w hw 4 rfl) (own_w hw 150 rfl) (by decide) e363 2 (by decide) (by decide) (by decide) (by decide) (argsL := [(.int (1 : Int32))]) (rest := [(.int (3 : Int32)), (.ref b233)]) (lenOf pd__I_I rfl) rfl (Nat.le_of_eq rfl) E369_mk (rmET1 l Z a0 hw mk ct x y h363 F371_counts V373_ct) d_87_2__124 (pc' := 127) rfl ?_
    intro v376 T376 L376 X376 hQ376
    obtain ⟨rfl, rfl, e376⟩ := hQ376
    rw [List.append_nil] at X376
    replace e376 : T376.heap = h363 := e376
    show GoP p e below Φ (T376.setTop (mkF m 127 #[.val (.ref p1), .val (.ref mk), .val (.ref cp), .val (.int (2 : Int32)), .val (.int (4 : Int32)), .val (.int (1 : Int32)), .val (.int (1 : Int32))] [(.int y), (.int (3 : Int32)), (.ref b233)]))
    refine own_iastore X376 hx hby hZ e376 V374_b233 (by decide) (Nat.le_of_ble_eq_true rfl) d_87_2__127 (pc' := 128) rfl ?_
    intro T377 h377 X377 e377 W377 V377
    replace V377 : AV Z h377 b233 .int [(.int (0 : Int32)), (.int x), (.int (1 : Int32)), (.int y)] := V377
    have E378_p1 := E364_p1.wr W377
    have F379_values := F365_values.other W377 (Or.inl ne_p1_b233)
    have F380_length := F366_length.other W377 (Or.inl ne_p1_b233)
    have V381_hv := V367_hv.other W377 ne_hv_b233
    have V382_cp := V368_cp.other W377 ne_cp_b233
    have E383_mk := E369_mk.wr W377
    have F384_marked := F370_marked.other W377 (Or.inl ne_mk_b233)
    have F385_counts := F371_counts.other W377 (Or.inl ne_mk_b233)
    have F386_markedCount := F372_markedCount.other W377 (Or.inl ne_mk_b233)
    have V387_ct := V373_ct.other W377 ne_ct_b233
    have E389_b233 := E375_b233.wr W377
    have Z377 : n0 ≤ h377.size := by rw [W377.size]; exact Z363
    have N377 := Fr.snoc X377 N363 n0_b233
    have K377 : Keep h0 h377 [p1] := K363.wr W377 (Or.inr sz_b233)
    refine own_iinc X377 hx hby d_87_2__128 rfl (v := (1 : Int32)) rfl (Ls' := #[.val (.ref p1), .val (.ref mk), .val (.ref cp), .val (.int (2 : Int32)), .val (.int (4 : Int32)), .val (.int (2 : Int32)), .val (.int (1 : Int32))]) rfl (pc' := 131) rfl ?_
    refine own_goto X377 hx hby d_87_2__131 (by decide) (pc' := 48) (by decide) ?_
    refine own_iload X377 hx hby d_87_2__48 rfl (pc' := 50) rfl ?_
    refine own_aloadN X377 hx hby d_87_2__50 rfl rfl (pc' := 51) rfl ?_
    refine own_callV X377 hx hby hZ (by exact hml) hown (own_w hw 181 rfl) (own_w hw 137 rfl) (own_w hw 139 rfl) (own_w hw 138 rfl) (own_w hw 4 rfl) (own_w hw 140 rfl) (by decide) e377 1 (by decide) (by decide) (by decide) (by decide) (argsL := []) (rest := [(.int (2 : Int32))]) (lenOf pd___I rfl) rfl (Nat.le_of_eq rfl) E383_mk (rmEn2 l Z a0 hw mk ct x y h377 F385_counts V387_ct) d_87_2__51 (pc' := 54) rfl ?_
    intro v390 T390 L390 X390 hQ390
    obtain ⟨rfl, rfl, e390⟩ := hQ390
    rw [List.append_nil] at X390
    replace e390 : T390.heap = h377 := e390
    show GoP p e below Φ (T390.setTop (mkF m 54 #[.val (.ref p1), .val (.ref mk), .val (.ref cp), .val (.int (2 : Int32)), .val (.int (4 : Int32)), .val (.int (2 : Int32)), .val (.int (1 : Int32))] [(.int (2 : Int32)), (.int (2 : Int32))]))
    refine own_icmpY X390 hx hby d_87_2__54 (flt (by decide)).2.1 (by decide) (pc' := 134) (by decide) ?_
    exact own_ret0 X390 hx hby fin hret d_87_2__134 (by decide) (by decide) (by rw [(show own_pl x y = (4 : Int32) from (by rw [own_pl, if_pos h1, if_pos h2]; decide)), (show own_pr x y = [(.int (0 : Int32)), (.int x), (.int (1 : Int32)), (.int y)] from (by rw [own_pr, if_pos h1, if_pos h2]; rfl))]; rw [e390]; exact ⟨rfl, N377, K377, b233, E378_p1, F379_values, F380_length, V377⟩)
theorem ef_rmIx0_0 (m : MethodId) (x0 : Addr) (x1 : Int32) (x2 : Int32) : entryFrame m #[(.ref x0), (.int x1), (.int x2)] 8 = mkF m 0 #[.val (.ref x0), .val (.int x1), .val (.int x2), .unset, .unset, .unset, .unset, .unset] [] := by first | (simp [entryFrame, mkF, argsToLocals, Value.category]; done) | rfl
theorem d_87_4__0 : decode prog_87_method_4_code 0 = .ok (.iload_n 2, 1) := by decide +kernel
theorem d_87_4__1 : decode prog_87_method_4_code 1 = .ok (.istore_n 3, 1) := by decide +kernel
theorem d_87_4__2 : decode prog_87_method_4_code 2 = .ok (.iload_n 3, 1) := by decide +kernel
theorem d_87_4__3 : decode prog_87_method_4_code 3 = .ok (.aload_n 0, 1) := by decide +kernel
theorem d_87_4__4 : decode prog_87_method_4_code 4 = .ok (.getfield 28, 3) := by decide +kernel
theorem d_87_4__7 : decode prog_87_method_4_code 7 = .ok (.if_icmp .ge 27, 3) := by decide +kernel
theorem d_87_4__34 : decode prog_87_method_4_code 34 = .ok (.iload_n 3, 1) := by decide +kernel
theorem d_87_4__35 : decode prog_87_method_4_code 35 = .ok (.aload_n 0, 1) := by decide +kernel
theorem d_87_4__36 : decode prog_87_method_4_code 36 = .ok (.getfield 28, 3) := by decide +kernel
theorem d_87_4__39 : decode prog_87_method_4_code 39 = .ok (.if_icmp .ge 108, 3) := by decide +kernel
theorem d_87_4__147 : decode prog_87_method_4_code 147 = .ok (.iload_n 3, 1) := by decide +kernel
theorem d_87_4__148 : decode prog_87_method_4_code 148 = .ok (.aload_n 0, 1) := by decide +kernel
theorem d_87_4__149 : decode prog_87_method_4_code 149 = .ok (.getfield 28, 3) := by decide +kernel
theorem d_87_4__152 : decode prog_87_method_4_code 152 = .ok (.if_icmp .ge 17, 3) := by decide +kernel
theorem d_87_4__169 : decode prog_87_method_4_code 169 = .ok (.iconst (-1), 1) := by decide +kernel
theorem d_87_4__170 : decode prog_87_method_4_code 170 = .ok (.istore 4, 2) := by decide +kernel
theorem d_87_4__172 : decode prog_87_method_4_code 172 = .ok (.iload 4, 2) := by decide +kernel
theorem d_87_4__174 : decode prog_87_method_4_code 174 = .ok (.ireturn, 1) := by decide +kernel
set_option maxRecDepth 65536 in
set_option maxHeartbeats 40000000 in
theorem rmIx0_0 (l : Launch) (Z : State) (a0 : Array Value) (hw : ∀ d ∈ tables_1, d.before a0 Z = true) (a hv : Addr) (x y : Int32) (h0 : Heap) (F1 : Fld Z h0 a "com/example/tracemass/tracemass/qstates/SilentPath$Pairs" "values" "[I" (.ref hv)) (F2 : Fld Z h0 a "com/example/tracemass/tracemass/qstates/SilentPath$Pairs" "length" "I" (.int (0 : Int32))) (V : AV Z h0 hv .int []) : Con l Z (⟨"com/example/tracemass/tracemass/qstates/SilentPath$Pairs", "indexFrom", "(II)I"⟩ : MethodName) prog_87_method_4_code 8 (some .int) [] ({ frames := 0, cells := 0, slots := 0, locals := 0 } : Room) #[(.ref a), (.int (0 : Int32)), (.int (0 : Int32))] h0 (fun v h L => v = some (.int (-1 : Int32)) ∧ L = [] ∧ h = h0) := by
  refine Con.of (plainFor_of_name pn_com_example_tracemass_tracemass_qstates_SilentPath_Pairs) ?_
  intro p e s m below meth c T X hx hby hml hown hnm hret eT hZ hsh Φ fin
  replace hown : s.vm.findClass "com/example/tracemass/tracemass/qstates/SilentPath$Pairs" = some m.cls := hown
  replace hml : 8 = c.maxLocals := hml.symm
  refine own_step (fun tq kq => castTop (ef_rmIx0_0 m a (0 : Int32) (0 : Int32)) kq) ?_
  refine own_iloadN X hx hby d_87_4__0 rfl (pc' := 1) rfl ?_
  refine own_istoreN X hx hby d_87_4__1  (Ls' := #[.val (.ref a), .val (.int (0 : Int32)), .val (.int (0 : Int32)), .val (.int (0 : Int32)), .unset, .unset, .unset, .unset]) rfl (pc' := 2) rfl ?_
  refine own_iloadN X hx hby d_87_4__2 rfl (pc' := 3) rfl ?_
  refine own_aloadN X hx hby d_87_4__3 rfl rfl (pc' := 4) rfl ?_
  refine own_getF X hx hby hZ hown (host := "") (Or.inl (own_w hw 179 rfl)) Via.refl eT F2 d_87_4__4 (pc' := 7) rfl ?_
  intro T1 X1 e1
  refine own_icmpY X1 hx hby d_87_4__7 (flt (by decide)).2.1 (by decide) (pc' := 34) (by decide) ?_
  refine own_iloadN X1 hx hby d_87_4__34 rfl (pc' := 35) rfl ?_
  refine own_aloadN X1 hx hby d_87_4__35 rfl rfl (pc' := 36) rfl ?_
  refine own_getF X1 hx hby hZ hown (host := "") (Or.inl (own_w hw 179 rfl)) Via.refl e1 F2 d_87_4__36 (pc' := 39) rfl ?_
  intro T2 X2 e2
  refine own_icmpY X2 hx hby d_87_4__39 (flt (by decide)).2.1 (by decide) (pc' := 147) (by decide) ?_
  refine own_iloadN X2 hx hby d_87_4__147 rfl (pc' := 148) rfl ?_
  refine own_aloadN X2 hx hby d_87_4__148 rfl rfl (pc' := 149) rfl ?_
  refine own_getF X2 hx hby hZ hown (host := "") (Or.inl (own_w hw 179 rfl)) Via.refl e2 F2 d_87_4__149 (pc' := 152) rfl ?_
  intro T3 X3 e3
  refine own_icmpY X3 hx hby d_87_4__152 (flt (by decide)).2.1 (by decide) (pc' := 169) (by decide) ?_
  refine own_iconst X3 hx hby d_87_4__169 (v := (-1 : Int32)) rfl (pc' := 170) rfl ?_
  refine own_istore X3 hx hby d_87_4__170  (Ls' := #[.val (.ref a), .val (.int (0 : Int32)), .val (.int (0 : Int32)), .val (.int (0 : Int32)), .val (.int (-1 : Int32)), .unset, .unset, .unset]) rfl (pc' := 172) rfl ?_
  refine own_iload X3 hx hby d_87_4__172 rfl (pc' := 174) rfl ?_
  exact own_retI X3 hx hby fin hret d_87_4__174 (by decide) (by decide) ⟨rfl, rfl, e3⟩
theorem ef_rmIx0_1 (m : MethodId) (x0 : Addr) (x1 : Int32) (x2 : Int32) : entryFrame m #[(.ref x0), (.int x1), (.int x2)] 8 = mkF m 0 #[.val (.ref x0), .val (.int x1), .val (.int x2), .unset, .unset, .unset, .unset, .unset] [] := by first | (simp [entryFrame, mkF, argsToLocals, Value.category]; done) | rfl
set_option maxRecDepth 65536 in
set_option maxHeartbeats 40000000 in
theorem rmIx0_1 (l : Launch) (Z : State) (a0 : Array Value) (hw : ∀ d ∈ tables_1, d.before a0 Z = true) (a hv : Addr) (x y : Int32) (h0 : Heap) (F1 : Fld Z h0 a "com/example/tracemass/tracemass/qstates/SilentPath$Pairs" "values" "[I" (.ref hv)) (F2 : Fld Z h0 a "com/example/tracemass/tracemass/qstates/SilentPath$Pairs" "length" "I" (.int (0 : Int32))) (V : AV Z h0 hv .int []) : Con l Z (⟨"com/example/tracemass/tracemass/qstates/SilentPath$Pairs", "indexFrom", "(II)I"⟩ : MethodName) prog_87_method_4_code 8 (some .int) [] ({ frames := 0, cells := 0, slots := 0, locals := 0 } : Room) #[(.ref a), (.int (1 : Int32)), (.int (0 : Int32))] h0 (fun v h L => v = some (.int (-1 : Int32)) ∧ L = [] ∧ h = h0) := by
  refine Con.of (plainFor_of_name pn_com_example_tracemass_tracemass_qstates_SilentPath_Pairs) ?_
  intro p e s m below meth c T X hx hby hml hown hnm hret eT hZ hsh Φ fin
  replace hown : s.vm.findClass "com/example/tracemass/tracemass/qstates/SilentPath$Pairs" = some m.cls := hown
  replace hml : 8 = c.maxLocals := hml.symm
  refine own_step (fun tq kq => castTop (ef_rmIx0_1 m a (1 : Int32) (0 : Int32)) kq) ?_
  refine own_iloadN X hx hby d_87_4__0 rfl (pc' := 1) rfl ?_
  refine own_istoreN X hx hby d_87_4__1  (Ls' := #[.val (.ref a), .val (.int (1 : Int32)), .val (.int (0 : Int32)), .val (.int (0 : Int32)), .unset, .unset, .unset, .unset]) rfl (pc' := 2) rfl ?_
  refine own_iloadN X hx hby d_87_4__2 rfl (pc' := 3) rfl ?_
  refine own_aloadN X hx hby d_87_4__3 rfl rfl (pc' := 4) rfl ?_
  refine own_getF X hx hby hZ hown (host := "") (Or.inl (own_w hw 179 rfl)) Via.refl eT F2 d_87_4__4 (pc' := 7) rfl ?_
  intro T1 X1 e1
  refine own_icmpY X1 hx hby d_87_4__7 (flt (by decide)).2.1 (by decide) (pc' := 34) (by decide) ?_
  refine own_iloadN X1 hx hby d_87_4__34 rfl (pc' := 35) rfl ?_
  refine own_aloadN X1 hx hby d_87_4__35 rfl rfl (pc' := 36) rfl ?_
  refine own_getF X1 hx hby hZ hown (host := "") (Or.inl (own_w hw 179 rfl)) Via.refl e1 F2 d_87_4__36 (pc' := 39) rfl ?_
  intro T2 X2 e2
  refine own_icmpY X2 hx hby d_87_4__39 (flt (by decide)).2.1 (by decide) (pc' := 147) (by decide) ?_
  refine own_iloadN X2 hx hby d_87_4__147 rfl (pc' := 148) rfl ?_
  refine own_aloadN X2 hx hby d_87_4__148 rfl rfl (pc' := 149) rfl ?_
  refine own_getF X2 hx hby hZ hown (host := "") (Or.inl (own_w hw 179 rfl)) Via.refl e2 F2 d_87_4__149 (pc' := 152) rfl ?_
  intro T3 X3 e3
  refine own_icmpY X3 hx hby d_87_4__152 (flt (by decide)).2.1 (by decide) (pc' := 169) (by decide) ?_
  refine own_iconst X3 hx hby d_87_4__169 (v := (-1 : Int32)) rfl (pc' := 170) rfl ?_
  refine own_istore X3 hx hby d_87_4__170  (Ls' := #[.val (.ref a), .val (.int (1 : Int32)), .val (.int (0 : Int32)), .val (.int (0 : Int32)), .val (.int (-1 : Int32)), .unset, .unset, .unset]) rfl (pc' := 172) rfl ?_
  refine own_iload X3 hx hby d_87_4__172 rfl (pc' := 174) rfl ?_
  exact own_retI X3 hx hby fin hret d_87_4__174 (by decide) (by decide) ⟨rfl, rfl, e3⟩
theorem ef_rmIx1_0 (m : MethodId) (x0 : Addr) (x1 : Int32) (x2 : Int32) : entryFrame m #[(.ref x0), (.int x1), (.int x2)] 8 = mkF m 0 #[.val (.ref x0), .val (.int x1), .val (.int x2), .unset, .unset, .unset, .unset, .unset] [] := by first | (simp [entryFrame, mkF, argsToLocals, Value.category]; done) | rfl
theorem d_87_4__10 : decode prog_87_method_4_code 10 = .ok (.iload_n 3, 1) := by decide +kernel
theorem d_87_4__11 : decode prog_87_method_4_code 11 = .ok (.iload_n 2, 1) := by decide +kernel
theorem d_87_4__12 : decode prog_87_method_4_code 12 = .ok (.bipush 16, 2) := by decide +kernel
theorem d_87_4__14 : decode prog_87_method_4_code 14 = .ok (.iadd, 1) := by decide +kernel
theorem d_87_4__15 : decode prog_87_method_4_code 15 = .ok (.if_icmp .ge 19, 3) := by decide +kernel
theorem d_87_4__18 : decode prog_87_method_4_code 18 = .ok (.aload_n 0, 1) := by decide +kernel
theorem d_87_4__19 : decode prog_87_method_4_code 19 = .ok (.getfield 7, 3) := by decide +kernel
theorem d_87_4__22 : decode prog_87_method_4_code 22 = .ok (.iload_n 3, 1) := by decide +kernel
theorem d_87_4__23 : decode prog_87_method_4_code 23 = .ok (.iaload, 1) := by decide +kernel
theorem d_87_4__24 : decode prog_87_method_4_code 24 = .ok (.iload_n 1, 1) := by decide +kernel
theorem d_87_4__25 : decode prog_87_method_4_code 25 = .ok (.if_icmp .ge 9, 3) := by decide +kernel
theorem d_87_4__42 : decode prog_87_method_4_code 42 = .ok (.aload_n 0, 1) := by decide +kernel
theorem d_87_4__43 : decode prog_87_method_4_code 43 = .ok (.getfield 7, 3) := by decide +kernel
theorem d_87_4__46 : decode prog_87_method_4_code 46 = .ok (.iload_n 3, 1) := by decide +kernel
theorem d_87_4__47 : decode prog_87_method_4_code 47 = .ok (.iaload, 1) := by decide +kernel
theorem d_87_4__48 : decode prog_87_method_4_code 48 = .ok (.iload_n 1, 1) := by decide +kernel
theorem d_87_4__49 : decode prog_87_method_4_code 49 = .ok (.if_icmp .ge 98, 3) := by decide +kernel
theorem d_87_4__155 : decode prog_87_method_4_code 155 = .ok (.aload_n 0, 1) := by decide +kernel
theorem d_87_4__156 : decode prog_87_method_4_code 156 = .ok (.getfield 7, 3) := by decide +kernel
theorem d_87_4__159 : decode prog_87_method_4_code 159 = .ok (.iload_n 3, 1) := by decide +kernel
theorem d_87_4__160 : decode prog_87_method_4_code 160 = .ok (.iaload, 1) := by decide +kernel
theorem d_87_4__161 : decode prog_87_method_4_code 161 = .ok (.iload_n 1, 1) := by decide +kernel
theorem d_87_4__162 : decode prog_87_method_4_code 162 = .ok (.if_icmp .ne 7, 3) := by decide +kernel
theorem d_87_4__165 : decode prog_87_method_4_code 165 = .ok (.iload_n 3, 1) := by decide +kernel
theorem d_87_4__166 : decode prog_87_method_4_code 166 = .ok (.goto 4, 3) := by decide +kernel
set_option maxRecDepth 65536 in
set_option maxHeartbeats 40000000 in
theorem rmIx1_0 (l : Launch) (Z : State) (a0 : Array Value) (hw : ∀ d ∈ tables_1, d.before a0 Z = true) (a hv : Addr) (x y : Int32) (h0 : Heap) (F1 : Fld Z h0 a "com/example/tracemass/tracemass/qstates/SilentPath$Pairs" "values" "[I" (.ref hv)) (F2 : Fld Z h0 a "com/example/tracemass/tracemass/qstates/SilentPath$Pairs" "length" "I" (.int (2 : Int32))) (V : AV Z h0 hv .int [(.int (0 : Int32)), (.int x)]) : Con l Z (⟨"com/example/tracemass/tracemass/qstates/SilentPath$Pairs", "indexFrom", "(II)I"⟩ : MethodName) prog_87_method_4_code 8 (some .int) [] ({ frames := 0, cells := 0, slots := 0, locals := 0 } : Room) #[(.ref a), (.int (0 : Int32)), (.int (0 : Int32))] h0 (fun v h L => v = some (.int (0 : Int32)) ∧ L = [] ∧ h = h0) := by
  refine Con.of (plainFor_of_name pn_com_example_tracemass_tracemass_qstates_SilentPath_Pairs) ?_
  intro p e s m below meth c T X hx hby hml hown hnm hret eT hZ hsh Φ fin
  replace hown : s.vm.findClass "com/example/tracemass/tracemass/qstates/SilentPath$Pairs" = some m.cls := hown
  replace hml : 8 = c.maxLocals := hml.symm
  refine own_step (fun tq kq => castTop (ef_rmIx1_0 m a (0 : Int32) (0 : Int32)) kq) ?_
  refine own_iloadN X hx hby d_87_4__0 rfl (pc' := 1) rfl ?_
  refine own_istoreN X hx hby d_87_4__1  (Ls' := #[.val (.ref a), .val (.int (0 : Int32)), .val (.int (0 : Int32)), .val (.int (0 : Int32)), .unset, .unset, .unset, .unset]) rfl (pc' := 2) rfl ?_
  refine own_iloadN X hx hby d_87_4__2 rfl (pc' := 3) rfl ?_
  refine own_aloadN X hx hby d_87_4__3 rfl rfl (pc' := 4) rfl ?_
  refine own_getF X hx hby hZ hown (host := "") (Or.inl (own_w hw 179 rfl)) Via.refl eT F2 d_87_4__4 (pc' := 7) rfl ?_
  intro T1 X1 e1
  refine own_icmpN X1 hx hby d_87_4__7 (tlt (by decide)).2.1 (pc' := 10) rfl ?_
  refine own_iloadN X1 hx hby d_87_4__10 rfl (pc' := 11) rfl ?_
  refine own_iloadN X1 hx hby d_87_4__11 rfl (pc' := 12) rfl ?_
  refine own_bipush X1 hx hby d_87_4__12 (v := (16 : Int32)) rfl (pc' := 14) rfl ?_
  refine own_iadd X1 hx hby d_87_4__14 (pc' := 15) rfl ?_
  show GoP p e below Φ (T1.setTop (mkF m 15 #[.val (.ref a), .val (.int (0 : Int32)), .val (.int (0 : Int32)), .val (.int (0 : Int32)), .unset, .unset, .unset, .unset] [(.int (16 : Int32)), (.int (0 : Int32))]))
  refine own_icmpN X1 hx hby d_87_4__15 (tlt (by decide)).2.1 (pc' := 18) rfl ?_
  refine own_aloadN X1 hx hby d_87_4__18 rfl rfl (pc' := 19) rfl ?_
  refine own_getF X1 hx hby hZ hown (host := "") (Or.inl (own_w hw 107 rfl)) Via.refl e1 F1 d_87_4__19 (pc' := 22) rfl ?_
  intro T2 X2 e2
  refine own_iloadN X2 hx hby d_87_4__22 rfl (pc' := 23) rfl ?_
  refine own_iaload X2 hx hby hZ e2 V (by decide) (v := (.int (0 : Int32))) rfl d_87_4__23 (pc' := 24) rfl ?_
  refine own_iloadN X2 hx hby d_87_4__24 rfl (pc' := 25) rfl ?_
  refine own_icmpY X2 hx hby d_87_4__25 (flt (by decide)).2.1 (by decide) (pc' := 34) (by decide) ?_
  refine own_iloadN X2 hx hby d_87_4__34 rfl (pc' := 35) rfl ?_
  refine own_aloadN X2 hx hby d_87_4__35 rfl rfl (pc' := 36) rfl ?_
  refine own_getF X2 hx hby hZ hown (host := "") (Or.inl (own_w hw 179 rfl)) Via.refl e2 F2 d_87_4__36 (pc' := 39) rfl ?_
  intro T3 X3 e3
  refine own_icmpN X3 hx hby d_87_4__39 (tlt (by decide)).2.1 (pc' := 42) rfl ?_
  refine own_aloadN X3 hx hby d_87_4__42 rfl rfl (pc' := 43) rfl ?_
  refine own_getF X3 hx hby hZ hown (host := "") (Or.inl (own_w hw 107 rfl)) Via.refl e3 F1 d_87_4__43 (pc' := 46) rfl ?_
  intro T4 X4 e4
  refine own_iloadN X4 hx hby d_87_4__46 rfl (pc' := 47) rfl ?_
  refine own_iaload X4 hx hby hZ e4 V (by decide) (v := (.int (0 : Int32))) rfl d_87_4__47 (pc' := 48) rfl ?_
  refine own_iloadN X4 hx hby d_87_4__48 rfl (pc' := 49) rfl ?_
  refine own_icmpY X4 hx hby d_87_4__49 (flt (by decide)).2.1 (by decide) (pc' := 147) (by decide) ?_
  refine own_iloadN X4 hx hby d_87_4__147 rfl (pc' := 148) rfl ?_
  refine own_aloadN X4 hx hby d_87_4__148 rfl rfl (pc' := 149) rfl ?_
  refine own_getF X4 hx hby hZ hown (host := "") (Or.inl (own_w hw 179 rfl)) Via.refl e4 F2 d_87_4__149 (pc' := 152) rfl ?_
  intro T5 X5 e5
  refine own_icmpN X5 hx hby d_87_4__152 (tlt (by decide)).2.1 (pc' := 155) rfl ?_
  refine own_aloadN X5 hx hby d_87_4__155 rfl rfl (pc' := 156) rfl ?_
  refine own_getF X5 hx hby hZ hown (host := "") (Or.inl (own_w hw 107 rfl)) Via.refl e5 F1 d_87_4__156 (pc' := 159) rfl ?_
  intro T6 X6 e6
  refine own_iloadN X6 hx hby d_87_4__159 rfl (pc' := 160) rfl ?_
  refine own_iaload X6 hx hby hZ e6 V (by decide) (v := (.int (0 : Int32))) rfl d_87_4__160 (pc' := 161) rfl ?_
  refine own_iloadN X6 hx hby d_87_4__161 rfl (pc' := 162) rfl ?_
  refine own_icmpN X6 hx hby d_87_4__162 (teq (by decide)).2 (pc' := 165) rfl ?_
  refine own_iloadN X6 hx hby d_87_4__165 rfl (pc' := 166) rfl ?_
  refine own_goto X6 hx hby d_87_4__166 (by decide) (pc' := 170) (by decide) ?_
  refine own_istore X6 hx hby d_87_4__170  (Ls' := #[.val (.ref a), .val (.int (0 : Int32)), .val (.int (0 : Int32)), .val (.int (0 : Int32)), .val (.int (0 : Int32)), .unset, .unset, .unset]) rfl (pc' := 172) rfl ?_
  refine own_iload X6 hx hby d_87_4__172 rfl (pc' := 174) rfl ?_
  exact own_retI X6 hx hby fin hret d_87_4__174 (by decide) (by decide) ⟨rfl, rfl, e6⟩
theorem ef_rmIx1_1 (m : MethodId) (x0 : Addr) (x1 : Int32) (x2 : Int32) : entryFrame m #[(.ref x0), (.int x1), (.int x2)] 8 = mkF m 0 #[.val (.ref x0), .val (.int x1), .val (.int x2), .unset, .unset, .unset, .unset, .unset] [] := by first | (simp [entryFrame, mkF, argsToLocals, Value.category]; done) | rfl
theorem d_87_4__28 : decode prog_87_method_4_code 28 = .ok (.iinc 3 2, 3) := by decide +kernel
theorem d_87_4__31 : decode prog_87_method_4_code 31 = .ok (.goto (-29), 3) := by decide +kernel
set_option maxRecDepth 65536 in
set_option maxHeartbeats 40000000 in
theorem rmIx1_1 (l : Launch) (Z : State) (a0 : Array Value) (hw : ∀ d ∈ tables_1, d.before a0 Z = true) (a hv : Addr) (x y : Int32) (h0 : Heap) (F1 : Fld Z h0 a "com/example/tracemass/tracemass/qstates/SilentPath$Pairs" "values" "[I" (.ref hv)) (F2 : Fld Z h0 a "com/example/tracemass/tracemass/qstates/SilentPath$Pairs" "length" "I" (.int (2 : Int32))) (V : AV Z h0 hv .int [(.int (0 : Int32)), (.int x)]) : Con l Z (⟨"com/example/tracemass/tracemass/qstates/SilentPath$Pairs", "indexFrom", "(II)I"⟩ : MethodName) prog_87_method_4_code 8 (some .int) [] ({ frames := 0, cells := 0, slots := 0, locals := 0 } : Room) #[(.ref a), (.int (1 : Int32)), (.int (0 : Int32))] h0 (fun v h L => v = some (.int (-1 : Int32)) ∧ L = [] ∧ h = h0) := by
  refine Con.of (plainFor_of_name pn_com_example_tracemass_tracemass_qstates_SilentPath_Pairs) ?_
  intro p e s m below meth c T X hx hby hml hown hnm hret eT hZ hsh Φ fin
  replace hown : s.vm.findClass "com/example/tracemass/tracemass/qstates/SilentPath$Pairs" = some m.cls := hown
  replace hml : 8 = c.maxLocals := hml.symm
  refine own_step (fun tq kq => castTop (ef_rmIx1_1 m a (1 : Int32) (0 : Int32)) kq) ?_
  refine own_iloadN X hx hby d_87_4__0 rfl (pc' := 1) rfl ?_
  refine own_istoreN X hx hby d_87_4__1  (Ls' := #[.val (.ref a), .val (.int (1 : Int32)), .val (.int (0 : Int32)), .val (.int (0 : Int32)), .unset, .unset, .unset, .unset]) rfl (pc' := 2) rfl ?_
  refine own_iloadN X hx hby d_87_4__2 rfl (pc' := 3) rfl ?_
  refine own_aloadN X hx hby d_87_4__3 rfl rfl (pc' := 4) rfl ?_
  refine own_getF X hx hby hZ hown (host := "") (Or.inl (own_w hw 179 rfl)) Via.refl eT F2 d_87_4__4 (pc' := 7) rfl ?_
  intro T1 X1 e1
  refine own_icmpN X1 hx hby d_87_4__7 (tlt (by decide)).2.1 (pc' := 10) rfl ?_
  refine own_iloadN X1 hx hby d_87_4__10 rfl (pc' := 11) rfl ?_
  refine own_iloadN X1 hx hby d_87_4__11 rfl (pc' := 12) rfl ?_
  refine own_bipush X1 hx hby d_87_4__12 (v := (16 : Int32)) rfl (pc' := 14) rfl ?_
  refine own_iadd X1 hx hby d_87_4__14 (pc' := 15) rfl ?_
  show GoP p e below Φ (T1.setTop (mkF m 15 #[.val (.ref a), .val (.int (1 : Int32)), .val (.int (0 : Int32)), .val (.int (0 : Int32)), .unset, .unset, .unset, .unset] [(.int (16 : Int32)), (.int (0 : Int32))]))
  refine own_icmpN X1 hx hby d_87_4__15 (tlt (by decide)).2.1 (pc' := 18) rfl ?_
  refine own_aloadN X1 hx hby d_87_4__18 rfl rfl (pc' := 19) rfl ?_
  refine own_getF X1 hx hby hZ hown (host := "") (Or.inl (own_w hw 107 rfl)) Via.refl e1 F1 d_87_4__19 (pc' := 22) rfl ?_
  intro T2 X2 e2
  refine own_iloadN X2 hx hby d_87_4__22 rfl (pc' := 23) rfl ?_
  refine own_iaload X2 hx hby hZ e2 V (by decide) (v := (.int (0 : Int32))) rfl d_87_4__23 (pc' := 24) rfl ?_
  refine own_iloadN X2 hx hby d_87_4__24 rfl (pc' := 25) rfl ?_
  refine own_icmpN X2 hx hby d_87_4__25 (tlt (by decide)).2.1 (pc' := 28) rfl ?_
  refine own_iinc X2 hx hby d_87_4__28 rfl (v := (2 : Int32)) rfl (Ls' := #[.val (.ref a), .val (.int (1 : Int32)), .val (.int (0 : Int32)), .val (.int (2 : Int32)), .unset, .unset, .unset, .unset]) rfl (pc' := 31) rfl ?_
  refine own_goto X2 hx hby d_87_4__31 (by decide) (pc' := 2) (by decide) ?_
  refine own_iloadN X2 hx hby d_87_4__2 rfl (pc' := 3) rfl ?_
  refine own_aloadN X2 hx hby d_87_4__3 rfl rfl (pc' := 4) rfl ?_
  refine own_getF X2 hx hby hZ hown (host := "") (Or.inl (own_w hw 179 rfl)) Via.refl e2 F2 d_87_4__4 (pc' := 7) rfl ?_
  intro T3 X3 e3
  refine own_icmpY X3 hx hby d_87_4__7 (flt (by decide)).2.1 (by decide) (pc' := 34) (by decide) ?_
  refine own_iloadN X3 hx hby d_87_4__34 rfl (pc' := 35) rfl ?_
  refine own_aloadN X3 hx hby d_87_4__35 rfl rfl (pc' := 36) rfl ?_
  refine own_getF X3 hx hby hZ hown (host := "") (Or.inl (own_w hw 179 rfl)) Via.refl e3 F2 d_87_4__36 (pc' := 39) rfl ?_
  intro T4 X4 e4
  refine own_icmpY X4 hx hby d_87_4__39 (flt (by decide)).2.1 (by decide) (pc' := 147) (by decide) ?_
  refine own_iloadN X4 hx hby d_87_4__147 rfl (pc' := 148) rfl ?_
  refine own_aloadN X4 hx hby d_87_4__148 rfl rfl (pc' := 149) rfl ?_
  refine own_getF X4 hx hby hZ hown (host := "") (Or.inl (own_w hw 179 rfl)) Via.refl e4 F2 d_87_4__149 (pc' := 152) rfl ?_
  intro T5 X5 e5
  refine own_icmpY X5 hx hby d_87_4__152 (flt (by decide)).2.1 (by decide) (pc' := 169) (by decide) ?_
  refine own_iconst X5 hx hby d_87_4__169 (v := (-1 : Int32)) rfl (pc' := 170) rfl ?_
  refine own_istore X5 hx hby d_87_4__170  (Ls' := #[.val (.ref a), .val (.int (1 : Int32)), .val (.int (0 : Int32)), .val (.int (2 : Int32)), .val (.int (-1 : Int32)), .unset, .unset, .unset]) rfl (pc' := 172) rfl ?_
  refine own_iload X5 hx hby d_87_4__172 rfl (pc' := 174) rfl ?_
  exact own_retI X5 hx hby fin hret d_87_4__174 (by decide) (by decide) ⟨rfl, rfl, e5⟩
theorem ef_rmIx2_0 (m : MethodId) (x0 : Addr) (x1 : Int32) (x2 : Int32) : entryFrame m #[(.ref x0), (.int x1), (.int x2)] 8 = mkF m 0 #[.val (.ref x0), .val (.int x1), .val (.int x2), .unset, .unset, .unset, .unset, .unset] [] := by first | (simp [entryFrame, mkF, argsToLocals, Value.category]; done) | rfl
set_option maxRecDepth 65536 in
set_option maxHeartbeats 40000000 in
theorem rmIx2_0 (l : Launch) (Z : State) (a0 : Array Value) (hw : ∀ d ∈ tables_1, d.before a0 Z = true) (a hv : Addr) (x y : Int32) (h0 : Heap) (F1 : Fld Z h0 a "com/example/tracemass/tracemass/qstates/SilentPath$Pairs" "values" "[I" (.ref hv)) (F2 : Fld Z h0 a "com/example/tracemass/tracemass/qstates/SilentPath$Pairs" "length" "I" (.int (2 : Int32))) (V : AV Z h0 hv .int [(.int (1 : Int32)), (.int y)]) : Con l Z (⟨"com/example/tracemass/tracemass/qstates/SilentPath$Pairs", "indexFrom", "(II)I"⟩ : MethodName) prog_87_method_4_code 8 (some .int) [] ({ frames := 0, cells := 0, slots := 0, locals := 0 } : Room) #[(.ref a), (.int (0 : Int32)), (.int (0 : Int32))] h0 (fun v h L => v = some (.int (-1 : Int32)) ∧ L = [] ∧ h = h0) := by
  refine Con.of (plainFor_of_name pn_com_example_tracemass_tracemass_qstates_SilentPath_Pairs) ?_
  intro p e s m below meth c T X hx hby hml hown hnm hret eT hZ hsh Φ fin
  replace hown : s.vm.findClass "com/example/tracemass/tracemass/qstates/SilentPath$Pairs" = some m.cls := hown
  replace hml : 8 = c.maxLocals := hml.symm
  refine own_step (fun tq kq => castTop (ef_rmIx2_0 m a (0 : Int32) (0 : Int32)) kq) ?_
  refine own_iloadN X hx hby d_87_4__0 rfl (pc' := 1) rfl ?_
  refine own_istoreN X hx hby d_87_4__1  (Ls' := #[.val (.ref a), .val (.int (0 : Int32)), .val (.int (0 : Int32)), .val (.int (0 : Int32)), .unset, .unset, .unset, .unset]) rfl (pc' := 2) rfl ?_
  refine own_iloadN X hx hby d_87_4__2 rfl (pc' := 3) rfl ?_
  refine own_aloadN X hx hby d_87_4__3 rfl rfl (pc' := 4) rfl ?_
  refine own_getF X hx hby hZ hown (host := "") (Or.inl (own_w hw 179 rfl)) Via.refl eT F2 d_87_4__4 (pc' := 7) rfl ?_
  intro T1 X1 e1
  refine own_icmpN X1 hx hby d_87_4__7 (tlt (by decide)).2.1 (pc' := 10) rfl ?_
  refine own_iloadN X1 hx hby d_87_4__10 rfl (pc' := 11) rfl ?_
  refine own_iloadN X1 hx hby d_87_4__11 rfl (pc' := 12) rfl ?_
  refine own_bipush X1 hx hby d_87_4__12 (v := (16 : Int32)) rfl (pc' := 14) rfl ?_
  refine own_iadd X1 hx hby d_87_4__14 (pc' := 15) rfl ?_
  show GoP p e below Φ (T1.setTop (mkF m 15 #[.val (.ref a), .val (.int (0 : Int32)), .val (.int (0 : Int32)), .val (.int (0 : Int32)), .unset, .unset, .unset, .unset] [(.int (16 : Int32)), (.int (0 : Int32))]))
  refine own_icmpN X1 hx hby d_87_4__15 (tlt (by decide)).2.1 (pc' := 18) rfl ?_
  refine own_aloadN X1 hx hby d_87_4__18 rfl rfl (pc' := 19) rfl ?_
  refine own_getF X1 hx hby hZ hown (host := "") (Or.inl (own_w hw 107 rfl)) Via.refl e1 F1 d_87_4__19 (pc' := 22) rfl ?_
  intro T2 X2 e2
  refine own_iloadN X2 hx hby d_87_4__22 rfl (pc' := 23) rfl ?_
  refine own_iaload X2 hx hby hZ e2 V (by decide) (v := (.int (1 : Int32))) rfl d_87_4__23 (pc' := 24) rfl ?_
  refine own_iloadN X2 hx hby d_87_4__24 rfl (pc' := 25) rfl ?_
  refine own_icmpY X2 hx hby d_87_4__25 (flt (by decide)).2.1 (by decide) (pc' := 34) (by decide) ?_
  refine own_iloadN X2 hx hby d_87_4__34 rfl (pc' := 35) rfl ?_
  refine own_aloadN X2 hx hby d_87_4__35 rfl rfl (pc' := 36) rfl ?_
  refine own_getF X2 hx hby hZ hown (host := "") (Or.inl (own_w hw 179 rfl)) Via.refl e2 F2 d_87_4__36 (pc' := 39) rfl ?_
  intro T3 X3 e3
  refine own_icmpN X3 hx hby d_87_4__39 (tlt (by decide)).2.1 (pc' := 42) rfl ?_
  refine own_aloadN X3 hx hby d_87_4__42 rfl rfl (pc' := 43) rfl ?_
  refine own_getF X3 hx hby hZ hown (host := "") (Or.inl (own_w hw 107 rfl)) Via.refl e3 F1 d_87_4__43 (pc' := 46) rfl ?_
  intro T4 X4 e4
  refine own_iloadN X4 hx hby d_87_4__46 rfl (pc' := 47) rfl ?_
  refine own_iaload X4 hx hby hZ e4 V (by decide) (v := (.int (1 : Int32))) rfl d_87_4__47 (pc' := 48) rfl ?_
  refine own_iloadN X4 hx hby d_87_4__48 rfl (pc' := 49) rfl ?_
  refine own_icmpY X4 hx hby d_87_4__49 (flt (by decide)).2.1 (by decide) (pc' := 147) (by decide) ?_
  refine own_iloadN X4 hx hby d_87_4__147 rfl (pc' := 148) rfl ?_
  refine own_aloadN X4 hx hby d_87_4__148 rfl rfl (pc' := 149) rfl ?_
  refine own_getF X4 hx hby hZ hown (host := "") (Or.inl (own_w hw 179 rfl)) Via.refl e4 F2 d_87_4__149 (pc' := 152) rfl ?_
  intro T5 X5 e5
  refine own_icmpN X5 hx hby d_87_4__152 (tlt (by decide)).2.1 (pc' := 155) rfl ?_
  refine own_aloadN X5 hx hby d_87_4__155 rfl rfl (pc' := 156) rfl ?_
  refine own_getF X5 hx hby hZ hown (host := "") (Or.inl (own_w hw 107 rfl)) Via.refl e5 F1 d_87_4__156 (pc' := 159) rfl ?_
  intro T6 X6 e6
  refine own_iloadN X6 hx hby d_87_4__159 rfl (pc' := 160) rfl ?_
  refine own_iaload X6 hx hby hZ e6 V (by decide) (v := (.int (1 : Int32))) rfl d_87_4__160 (pc' := 161) rfl ?_
  refine own_iloadN X6 hx hby d_87_4__161 rfl (pc' := 162) rfl ?_
  refine own_icmpY X6 hx hby d_87_4__162 (feq (by decide)).2 (by decide) (pc' := 169) (by decide) ?_
  refine own_iconst X6 hx hby d_87_4__169 (v := (-1 : Int32)) rfl (pc' := 170) rfl ?_
  refine own_istore X6 hx hby d_87_4__170  (Ls' := #[.val (.ref a), .val (.int (0 : Int32)), .val (.int (0 : Int32)), .val (.int (0 : Int32)), .val (.int (-1 : Int32)), .unset, .unset, .unset]) rfl (pc' := 172) rfl ?_
  refine own_iload X6 hx hby d_87_4__172 rfl (pc' := 174) rfl ?_
  exact own_retI X6 hx hby fin hret d_87_4__174 (by decide) (by decide) ⟨rfl, rfl, e6⟩
theorem ef_rmIx2_1 (m : MethodId) (x0 : Addr) (x1 : Int32) (x2 : Int32) : entryFrame m #[(.ref x0), (.int x1), (.int x2)] 8 = mkF m 0 #[.val (.ref x0), .val (.int x1), .val (.int x2), .unset, .unset, .unset, .unset, .unset] [] := by first | (simp [entryFrame, mkF, argsToLocals, Value.category]; done) | rfl
set_option maxRecDepth 65536 in
set_option maxHeartbeats 40000000 in
theorem rmIx2_1 (l : Launch) (Z : State) (a0 : Array Value) (hw : ∀ d ∈ tables_1, d.before a0 Z = true) (a hv : Addr) (x y : Int32) (h0 : Heap) (F1 : Fld Z h0 a "com/example/tracemass/tracemass/qstates/SilentPath$Pairs" "values" "[I" (.ref hv)) (F2 : Fld Z h0 a "com/example/tracemass/tracemass/qstates/SilentPath$Pairs" "length" "I" (.int (2 : Int32))) (V : AV Z h0 hv .int [(.int (1 : Int32)), (.int y)]) : Con l Z (⟨"com/example/tracemass/tracemass/qstates/SilentPath$Pairs", "indexFrom", "(II)I"⟩ : MethodName) prog_87_method_4_code 8 (some .int) [] ({ frames := 0, cells := 0, slots := 0, locals := 0 } : Room) #[(.ref a), (.int (1 : Int32)), (.int (0 : Int32))] h0 (fun v h L => v = some (.int (0 : Int32)) ∧ L = [] ∧ h = h0) := by
  refine Con.of (plainFor_of_name pn_com_example_tracemass_tracemass_qstates_SilentPath_Pairs) ?_
  intro p e s m below meth c T X hx hby hml hown hnm hret eT hZ hsh Φ fin
  replace hown : s.vm.findClass "com/example/tracemass/tracemass/qstates/SilentPath$Pairs" = some m.cls := hown
  replace hml : 8 = c.maxLocals := hml.symm
  refine own_step (fun tq kq => castTop (ef_rmIx2_1 m a (1 : Int32) (0 : Int32)) kq) ?_
  refine own_iloadN X hx hby d_87_4__0 rfl (pc' := 1) rfl ?_
  refine own_istoreN X hx hby d_87_4__1  (Ls' := #[.val (.ref a), .val (.int (1 : Int32)), .val (.int (0 : Int32)), .val (.int (0 : Int32)), .unset, .unset, .unset, .unset]) rfl (pc' := 2) rfl ?_
  refine own_iloadN X hx hby d_87_4__2 rfl (pc' := 3) rfl ?_
  refine own_aloadN X hx hby d_87_4__3 rfl rfl (pc' := 4) rfl ?_
  refine own_getF X hx hby hZ hown (host := "") (Or.inl (own_w hw 179 rfl)) Via.refl eT F2 d_87_4__4 (pc' := 7) rfl ?_
  intro T1 X1 e1
  refine own_icmpN X1 hx hby d_87_4__7 (tlt (by decide)).2.1 (pc' := 10) rfl ?_
  refine own_iloadN X1 hx hby d_87_4__10 rfl (pc' := 11) rfl ?_
  refine own_iloadN X1 hx hby d_87_4__11 rfl (pc' := 12) rfl ?_
  refine own_bipush X1 hx hby d_87_4__12 (v := (16 : Int32)) rfl (pc' := 14) rfl ?_
  refine own_iadd X1 hx hby d_87_4__14 (pc' := 15) rfl ?_
  show GoP p e below Φ (T1.setTop (mkF m 15 #[.val (.ref a), .val (.int (1 : Int32)), .val (.int (0 : Int32)), .val (.int (0 : Int32)), .unset, .unset, .unset, .unset] [(.int (16 : Int32)), (.int (0 : Int32))]))
  refine own_icmpN X1 hx hby d_87_4__15 (tlt (by decide)).2.1 (pc' := 18) rfl ?_
  refine own_aloadN X1 hx hby d_87_4__18 rfl rfl (pc' := 19) rfl ?_
  refine own_getF X1 hx hby hZ hown (host := "") (Or.inl (own_w hw 107 rfl)) Via.refl e1 F1 d_87_4__19 (pc' := 22) rfl ?_
  intro T2 X2 e2
  refine own_iloadN X2 hx hby d_87_4__22 rfl (pc' := 23) rfl ?_
  refine own_iaload X2 hx hby hZ e2 V (by decide) (v := (.int (1 : Int32))) rfl d_87_4__23 (pc' := 24) rfl ?_
  refine own_iloadN X2 hx hby d_87_4__24 rfl (pc' := 25) rfl ?_
  refine own_icmpY X2 hx hby d_87_4__25 (flt (by decide)).2.1 (by decide) (pc' := 34) (by decide) ?_
  refine own_iloadN X2 hx hby d_87_4__34 rfl (pc' := 35) rfl ?_
  refine own_aloadN X2 hx hby d_87_4__35 rfl rfl (pc' := 36) rfl ?_
  refine own_getF X2 hx hby hZ hown (host := "") (Or.inl (own_w hw 179 rfl)) Via.refl e2 F2 d_87_4__36 (pc' := 39) rfl ?_
  intro T3 X3 e3
  refine own_icmpN X3 hx hby d_87_4__39 (tlt (by decide)).2.1 (pc' := 42) rfl ?_
  refine own_aloadN X3 hx hby d_87_4__42 rfl rfl (pc' := 43) rfl ?_
  refine own_getF X3 hx hby hZ hown (host := "") (Or.inl (own_w hw 107 rfl)) Via.refl e3 F1 d_87_4__43 (pc' := 46) rfl ?_
  intro T4 X4 e4
  refine own_iloadN X4 hx hby d_87_4__46 rfl (pc' := 47) rfl ?_
  refine own_iaload X4 hx hby hZ e4 V (by decide) (v := (.int (1 : Int32))) rfl d_87_4__47 (pc' := 48) rfl ?_
  refine own_iloadN X4 hx hby d_87_4__48 rfl (pc' := 49) rfl ?_
  refine own_icmpY X4 hx hby d_87_4__49 (flt (by decide)).2.1 (by decide) (pc' := 147) (by decide) ?_
  refine own_iloadN X4 hx hby d_87_4__147 rfl (pc' := 148) rfl ?_
  refine own_aloadN X4 hx hby d_87_4__148 rfl rfl (pc' := 149) rfl ?_
  refine own_getF X4 hx hby hZ hown (host := "") (Or.inl (own_w hw 179 rfl)) Via.refl e4 F2 d_87_4__149 (pc' := 152) rfl ?_
  intro T5 X5 e5
  refine own_icmpN X5 hx hby d_87_4__152 (tlt (by decide)).2.1 (pc' := 155) rfl ?_
  refine own_aloadN X5 hx hby d_87_4__155 rfl rfl (pc' := 156) rfl ?_
  refine own_getF X5 hx hby hZ hown (host := "") (Or.inl (own_w hw 107 rfl)) Via.refl e5 F1 d_87_4__156 (pc' := 159) rfl ?_
  intro T6 X6 e6
  refine own_iloadN X6 hx hby d_87_4__159 rfl (pc' := 160) rfl ?_
  refine own_iaload X6 hx hby hZ e6 V (by decide) (v := (.int (1 : Int32))) rfl d_87_4__160 (pc' := 161) rfl ?_
  refine own_iloadN X6 hx hby d_87_4__161 rfl (pc' := 162) rfl ?_
  refine own_icmpN X6 hx hby d_87_4__162 (teq (by decide)).2 (pc' := 165) rfl ?_
  refine own_iloadN X6 hx hby d_87_4__165 rfl (pc' := 166) rfl ?_
  refine own_goto X6 hx hby d_87_4__166 (by decide) (pc' := 170) (by decide) ?_
  refine own_istore X6 hx hby d_87_4__170  (Ls' := #[.val (.ref a), .val (.int (1 : Int32)), .val (.int (0 : Int32)), .val (.int (0 : Int32)), .val (.int (0 : Int32)), .unset, .unset, .unset]) rfl (pc' := 172) rfl ?_
  refine own_iload X6 hx hby d_87_4__172 rfl (pc' := 174) rfl ?_
  exact own_retI X6 hx hby fin hret d_87_4__174 (by decide) (by decide) ⟨rfl, rfl, e6⟩
theorem ef_rmIx3_0 (m : MethodId) (x0 : Addr) (x1 : Int32) (x2 : Int32) : entryFrame m #[(.ref x0), (.int x1), (.int x2)] 8 = mkF m 0 #[.val (.ref x0), .val (.int x1), .val (.int x2), .unset, .unset, .unset, .unset, .unset] [] := by first | (simp [entryFrame, mkF, argsToLocals, Value.category]; done) | rfl
set_option maxRecDepth 65536 in
set_option maxHeartbeats 40000000 in
theorem rmIx3_0 (l : Launch) (Z : State) (a0 : Array Value) (hw : ∀ d ∈ tables_1, d.before a0 Z = true) (a hv : Addr) (x y : Int32) (h0 : Heap) (F1 : Fld Z h0 a "com/example/tracemass/tracemass/qstates/SilentPath$Pairs" "values" "[I" (.ref hv)) (F2 : Fld Z h0 a "com/example/tracemass/tracemass/qstates/SilentPath$Pairs" "length" "I" (.int (4 : Int32))) (V : AV Z h0 hv .int [(.int (0 : Int32)), (.int x), (.int (1 : Int32)), (.int y)]) : Con l Z (⟨"com/example/tracemass/tracemass/qstates/SilentPath$Pairs", "indexFrom", "(II)I"⟩ : MethodName) prog_87_method_4_code 8 (some .int) [] ({ frames := 0, cells := 0, slots := 0, locals := 0 } : Room) #[(.ref a), (.int (0 : Int32)), (.int (0 : Int32))] h0 (fun v h L => v = some (.int (0 : Int32)) ∧ L = [] ∧ h = h0) := by
  refine Con.of (plainFor_of_name pn_com_example_tracemass_tracemass_qstates_SilentPath_Pairs) ?_
  intro p e s m below meth c T X hx hby hml hown hnm hret eT hZ hsh Φ fin
  replace hown : s.vm.findClass "com/example/tracemass/tracemass/qstates/SilentPath$Pairs" = some m.cls := hown
  replace hml : 8 = c.maxLocals := hml.symm
  refine own_step (fun tq kq => castTop (ef_rmIx3_0 m a (0 : Int32) (0 : Int32)) kq) ?_
  refine own_iloadN X hx hby d_87_4__0 rfl (pc' := 1) rfl ?_
  refine own_istoreN X hx hby d_87_4__1  (Ls' := #[.val (.ref a), .val (.int (0 : Int32)), .val (.int (0 : Int32)), .val (.int (0 : Int32)), .unset, .unset, .unset, .unset]) rfl (pc' := 2) rfl ?_
  refine own_iloadN X hx hby d_87_4__2 rfl (pc' := 3) rfl ?_
  refine own_aloadN X hx hby d_87_4__3 rfl rfl (pc' := 4) rfl ?_
  refine own_getF X hx hby hZ hown (host := "") (Or.inl (own_w hw 179 rfl)) Via.refl eT F2 d_87_4__4 (pc' := 7) rfl ?_
  intro T1 X1 e1
  refine own_icmpN X1 hx hby d_87_4__7 (tlt (by decide)).2.1 (pc' := 10) rfl ?_
  refine own_iloadN X1 hx hby d_87_4__10 rfl (pc' := 11) rfl ?_
  refine own_iloadN X1 hx hby d_87_4__11 rfl (pc' := 12) rfl ?_
  refine own_bipush X1 hx hby d_87_4__12 (v := (16 : Int32)) rfl (pc' := 14) rfl ?_
  refine own_iadd X1 hx hby d_87_4__14 (pc' := 15) rfl ?_
  show GoP p e below Φ (T1.setTop (mkF m 15 #[.val (.ref a), .val (.int (0 : Int32)), .val (.int (0 : Int32)), .val (.int (0 : Int32)), .unset, .unset, .unset, .unset] [(.int (16 : Int32)), (.int (0 : Int32))]))
  refine own_icmpN X1 hx hby d_87_4__15 (tlt (by decide)).2.1 (pc' := 18) rfl ?_
  refine own_aloadN X1 hx hby d_87_4__18 rfl rfl (pc' := 19) rfl ?_
  refine own_getF X1 hx hby hZ hown (host := "") (Or.inl (own_w hw 107 rfl)) Via.refl e1 F1 d_87_4__19 (pc' := 22) rfl ?_
  intro T2 X2 e2
  refine own_iloadN X2 hx hby d_87_4__22 rfl (pc' := 23) rfl ?_
  refine own_iaload X2 hx hby hZ e2 V (by decide) (v := (.int (0 : Int32))) rfl d_87_4__23 (pc' := 24) rfl ?_
  refine own_iloadN X2 hx hby d_87_4__24 rfl (pc' := 25) rfl ?_
  refine own_icmpY X2 hx hby d_87_4__25 (flt (by decide)).2.1 (by decide) (pc' := 34) (by decide) ?_
  refine own_iloadN X2 hx hby d_87_4__34 rfl (pc' := 35) rfl ?_
  refine own_aloadN X2 hx hby d_87_4__35 rfl rfl (pc' := 36) rfl ?_
  refine own_getF X2 hx hby hZ hown (host := "") (Or.inl (own_w hw 179 rfl)) Via.refl e2 F2 d_87_4__36 (pc' := 39) rfl ?_
  intro T3 X3 e3
  refine own_icmpN X3 hx hby d_87_4__39 (tlt (by decide)).2.1 (pc' := 42) rfl ?_
  refine own_aloadN X3 hx hby d_87_4__42 rfl rfl (pc' := 43) rfl ?_
  refine own_getF X3 hx hby hZ hown (host := "") (Or.inl (own_w hw 107 rfl)) Via.refl e3 F1 d_87_4__43 (pc' := 46) rfl ?_
  intro T4 X4 e4
  refine own_iloadN X4 hx hby d_87_4__46 rfl (pc' := 47) rfl ?_
  refine own_iaload X4 hx hby hZ e4 V (by decide) (v := (.int (0 : Int32))) rfl d_87_4__47 (pc' := 48) rfl ?_
  refine own_iloadN X4 hx hby d_87_4__48 rfl (pc' := 49) rfl ?_
  refine own_icmpY X4 hx hby d_87_4__49 (flt (by decide)).2.1 (by decide) (pc' := 147) (by decide) ?_
  refine own_iloadN X4 hx hby d_87_4__147 rfl (pc' := 148) rfl ?_
  refine own_aloadN X4 hx hby d_87_4__148 rfl rfl (pc' := 149) rfl ?_
  refine own_getF X4 hx hby hZ hown (host := "") (Or.inl (own_w hw 179 rfl)) Via.refl e4 F2 d_87_4__149 (pc' := 152) rfl ?_
  intro T5 X5 e5
  refine own_icmpN X5 hx hby d_87_4__152 (tlt (by decide)).2.1 (pc' := 155) rfl ?_
  refine own_aloadN X5 hx hby d_87_4__155 rfl rfl (pc' := 156) rfl ?_
  refine own_getF X5 hx hby hZ hown (host := "") (Or.inl (own_w hw 107 rfl)) Via.refl e5 F1 d_87_4__156 (pc' := 159) rfl ?_
  intro T6 X6 e6
  refine own_iloadN X6 hx hby d_87_4__159 rfl (pc' := 160) rfl ?_
  refine own_iaload X6 hx hby hZ e6 V (by decide) (v := (.int (0 : Int32))) rfl d_87_4__160 (pc' := 161) rfl ?_
  refine own_iloadN X6 hx hby d_87_4__161 rfl (pc' := 162) rfl ?_
  refine own_icmpN X6 hx hby d_87_4__162 (teq (by decide)).2 (pc' := 165) rfl ?_
  refine own_iloadN X6 hx hby d_87_4__165 rfl (pc' := 166) rfl ?_
  refine own_goto X6 hx hby d_87_4__166 (by decide) (pc' := 170) (by decide) ?_
  refine own_istore X6 hx hby d_87_4__170  (Ls' := #[.val (.ref a), .val (.int (0 : Int32)), .val (.int (0 : Int32)), .val (.int (0 : Int32)), .val (.int (0 : Int32)), .unset, .unset, .unset]) rfl (pc' := 172) rfl ?_
  refine own_iload X6 hx hby d_87_4__172 rfl (pc' := 174) rfl ?_
  exact own_retI X6 hx hby fin hret d_87_4__174 (by decide) (by decide) ⟨rfl, rfl, e6⟩
theorem ef_rmIx3_1 (m : MethodId) (x0 : Addr) (x1 : Int32) (x2 : Int32) : entryFrame m #[(.ref x0), (.int x1), (.int x2)] 8 = mkF m 0 #[.val (.ref x0), .val (.int x1), .val (.int x2), .unset, .unset, .unset, .unset, .unset] [] := by first | (simp [entryFrame, mkF, argsToLocals, Value.category]; done) | rfl
set_option maxRecDepth 65536 in
set_option maxHeartbeats 40000000 in
theorem rmIx3_1 (l : Launch) (Z : State) (a0 : Array Value) (hw : ∀ d ∈ tables_1, d.before a0 Z = true) (a hv : Addr) (x y : Int32) (h0 : Heap) (F1 : Fld Z h0 a "com/example/tracemass/tracemass/qstates/SilentPath$Pairs" "values" "[I" (.ref hv)) (F2 : Fld Z h0 a "com/example/tracemass/tracemass/qstates/SilentPath$Pairs" "length" "I" (.int (4 : Int32))) (V : AV Z h0 hv .int [(.int (0 : Int32)), (.int x), (.int (1 : Int32)), (.int y)]) : Con l Z (⟨"com/example/tracemass/tracemass/qstates/SilentPath$Pairs", "indexFrom", "(II)I"⟩ : MethodName) prog_87_method_4_code 8 (some .int) [] ({ frames := 0, cells := 0, slots := 0, locals := 0 } : Room) #[(.ref a), (.int (1 : Int32)), (.int (0 : Int32))] h0 (fun v h L => v = some (.int (2 : Int32)) ∧ L = [] ∧ h = h0) := by
  refine Con.of (plainFor_of_name pn_com_example_tracemass_tracemass_qstates_SilentPath_Pairs) ?_
  intro p e s m below meth c T X hx hby hml hown hnm hret eT hZ hsh Φ fin
  replace hown : s.vm.findClass "com/example/tracemass/tracemass/qstates/SilentPath$Pairs" = some m.cls := hown
  replace hml : 8 = c.maxLocals := hml.symm
  refine own_step (fun tq kq => castTop (ef_rmIx3_1 m a (1 : Int32) (0 : Int32)) kq) ?_
  refine own_iloadN X hx hby d_87_4__0 rfl (pc' := 1) rfl ?_
  refine own_istoreN X hx hby d_87_4__1  (Ls' := #[.val (.ref a), .val (.int (1 : Int32)), .val (.int (0 : Int32)), .val (.int (0 : Int32)), .unset, .unset, .unset, .unset]) rfl (pc' := 2) rfl ?_
  refine own_iloadN X hx hby d_87_4__2 rfl (pc' := 3) rfl ?_
  refine own_aloadN X hx hby d_87_4__3 rfl rfl (pc' := 4) rfl ?_
  refine own_getF X hx hby hZ hown (host := "") (Or.inl (own_w hw 179 rfl)) Via.refl eT F2 d_87_4__4 (pc' := 7) rfl ?_
  intro T1 X1 e1
  refine own_icmpN X1 hx hby d_87_4__7 (tlt (by decide)).2.1 (pc' := 10) rfl ?_
  refine own_iloadN X1 hx hby d_87_4__10 rfl (pc' := 11) rfl ?_
  refine own_iloadN X1 hx hby d_87_4__11 rfl (pc' := 12) rfl ?_
  refine own_bipush X1 hx hby d_87_4__12 (v := (16 : Int32)) rfl (pc' := 14) rfl ?_
  refine own_iadd X1 hx hby d_87_4__14 (pc' := 15) rfl ?_
  show GoP p e below Φ (T1.setTop (mkF m 15 #[.val (.ref a), .val (.int (1 : Int32)), .val (.int (0 : Int32)), .val (.int (0 : Int32)), .unset, .unset, .unset, .unset] [(.int (16 : Int32)), (.int (0 : Int32))]))
  refine own_icmpN X1 hx hby d_87_4__15 (tlt (by decide)).2.1 (pc' := 18) rfl ?_
  refine own_aloadN X1 hx hby d_87_4__18 rfl rfl (pc' := 19) rfl ?_
  refine own_getF X1 hx hby hZ hown (host := "") (Or.inl (own_w hw 107 rfl)) Via.refl e1 F1 d_87_4__19 (pc' := 22) rfl ?_
  intro T2 X2 e2
  refine own_iloadN X2 hx hby d_87_4__22 rfl (pc' := 23) rfl ?_
  refine own_iaload X2 hx hby hZ e2 V (by decide) (v := (.int (0 : Int32))) rfl d_87_4__23 (pc' := 24) rfl ?_
  refine own_iloadN X2 hx hby d_87_4__24 rfl (pc' := 25) rfl ?_
  refine own_icmpN X2 hx hby d_87_4__25 (tlt (by decide)).2.1 (pc' := 28) rfl ?_
  refine own_iinc X2 hx hby d_87_4__28 rfl (v := (2 : Int32)) rfl (Ls' := #[.val (.ref a), .val (.int (1 : Int32)), .val (.int (0 : Int32)), .val (.int (2 : Int32)), .unset, .unset, .unset, .unset]) rfl (pc' := 31) rfl ?_
  refine own_goto X2 hx hby d_87_4__31 (by decide) (pc' := 2) (by decide) ?_
  refine own_iloadN X2 hx hby d_87_4__2 rfl (pc' := 3) rfl ?_
  refine own_aloadN X2 hx hby d_87_4__3 rfl rfl (pc' := 4) rfl ?_
  refine own_getF X2 hx hby hZ hown (host := "") (Or.inl (own_w hw 179 rfl)) Via.refl e2 F2 d_87_4__4 (pc' := 7) rfl ?_
  intro T3 X3 e3
  refine own_icmpN X3 hx hby d_87_4__7 (tlt (by decide)).2.1 (pc' := 10) rfl ?_
  refine own_iloadN X3 hx hby d_87_4__10 rfl (pc' := 11) rfl ?_
  refine own_iloadN X3 hx hby d_87_4__11 rfl (pc' := 12) rfl ?_
  refine own_bipush X3 hx hby d_87_4__12 (v := (16 : Int32)) rfl (pc' := 14) rfl ?_
  refine own_iadd X3 hx hby d_87_4__14 (pc' := 15) rfl ?_
  show GoP p e below Φ (T3.setTop (mkF m 15 #[.val (.ref a), .val (.int (1 : Int32)), .val (.int (0 : Int32)), .val (.int (2 : Int32)), .unset, .unset, .unset, .unset] [(.int (16 : Int32)), (.int (2 : Int32))]))
  refine own_icmpN X3 hx hby d_87_4__15 (tlt (by decide)).2.1 (pc' := 18) rfl ?_
  refine own_aloadN X3 hx hby d_87_4__18 rfl rfl (pc' := 19) rfl ?_
  refine own_getF X3 hx hby hZ hown (host := "") (Or.inl (own_w hw 107 rfl)) Via.refl e3 F1 d_87_4__19 (pc' := 22) rfl ?_
  intro T4 X4 e4
  refine own_iloadN X4 hx hby d_87_4__22 rfl (pc' := 23) rfl ?_
  refine own_iaload X4 hx hby hZ e4 V (by decide) (v := (.int (1 : Int32))) rfl d_87_4__23 (pc' := 24) rfl ?_
  refine own_iloadN X4 hx hby d_87_4__24 rfl (pc' := 25) rfl ?_
  refine own_icmpY X4 hx hby d_87_4__25 (flt (by decide)).2.1 (by decide) (pc' := 34) (by decide) ?_
  refine own_iloadN X4 hx hby d_87_4__34 rfl (pc' := 35) rfl ?_
  refine own_aloadN X4 hx hby d_87_4__35 rfl rfl (pc' := 36) rfl ?_
  refine own_getF X4 hx hby hZ hown (host := "") (Or.inl (own_w hw 179 rfl)) Via.refl e4 F2 d_87_4__36 (pc' := 39) rfl ?_
  intro T5 X5 e5
  refine own_icmpN X5 hx hby d_87_4__39 (tlt (by decide)).2.1 (pc' := 42) rfl ?_
  refine own_aloadN X5 hx hby d_87_4__42 rfl rfl (pc' := 43) rfl ?_
  refine own_getF X5 hx hby hZ hown (host := "") (Or.inl (own_w hw 107 rfl)) Via.refl e5 F1 d_87_4__43 (pc' := 46) rfl ?_
  intro T6 X6 e6
  refine own_iloadN X6 hx hby d_87_4__46 rfl (pc' := 47) rfl ?_
  refine own_iaload X6 hx hby hZ e6 V (by decide) (v := (.int (1 : Int32))) rfl d_87_4__47 (pc' := 48) rfl ?_
  refine own_iloadN X6 hx hby d_87_4__48 rfl (pc' := 49) rfl ?_
  refine own_icmpY X6 hx hby d_87_4__49 (flt (by decide)).2.1 (by decide) (pc' := 147) (by decide) ?_
  refine own_iloadN X6 hx hby d_87_4__147 rfl (pc' := 148) rfl ?_
  refine own_aloadN X6 hx hby d_87_4__148 rfl rfl (pc' := 149) rfl ?_
  refine own_getF X6 hx hby hZ hown (host := "") (Or.inl (own_w hw 179 rfl)) Via.refl e6 F2 d_87_4__149 (pc' := 152) rfl ?_
  intro T7 X7 e7
  refine own_icmpN X7 hx hby d_87_4__152 (tlt (by decide)).2.1 (pc' := 155) rfl ?_
  refine own_aloadN X7 hx hby d_87_4__155 rfl rfl (pc' := 156) rfl ?_
  refine own_getF X7 hx hby hZ hown (host := "") (Or.inl (own_w hw 107 rfl)) Via.refl e7 F1 d_87_4__156 (pc' := 159) rfl ?_
  intro T8 X8 e8
  refine own_iloadN X8 hx hby d_87_4__159 rfl (pc' := 160) rfl ?_
  refine own_iaload X8 hx hby hZ e8 V (by decide) (v := (.int (1 : Int32))) rfl d_87_4__160 (pc' := 161) rfl ?_
  refine own_iloadN X8 hx hby d_87_4__161 rfl (pc' := 162) rfl ?_
  refine own_icmpN X8 hx hby d_87_4__162 (teq (by decide)).2 (pc' := 165) rfl ?_
  refine own_iloadN X8 hx hby d_87_4__165 rfl (pc' := 166) rfl ?_
  refine own_goto X8 hx hby d_87_4__166 (by decide) (pc' := 170) (by decide) ?_
  refine own_istore X8 hx hby d_87_4__170  (Ls' := #[.val (.ref a), .val (.int (1 : Int32)), .val (.int (0 : Int32)), .val (.int (2 : Int32)), .val (.int (2 : Int32)), .unset, .unset, .unset]) rfl (pc' := 172) rfl ?_
  refine own_iload X8 hx hby d_87_4__172 rfl (pc' := 174) rfl ?_
  exact own_retI X8 hx hby fin hret d_87_4__174 (by decide) (by decide) ⟨rfl, rfl, e8⟩
theorem ef_rmCv (m : MethodId) (x0 : Addr) (x1 : Addr) (x2 : Int32) : entryFrame m #[(.ref x0), (.ref x1), (.int x2)] 5 = mkF m 0 #[.val (.ref x0), .val (.ref x1), .val (.int x2), .unset, .unset] [] := by first | (simp [entryFrame, mkF, argsToLocals, Value.category]; done) | rfl
theorem d_87_3__0 : decode prog_87_method_3_code 0 = .ok (.iconst 0, 1) := by decide +kernel
theorem d_87_3__1 : decode prog_87_method_3_code 1 = .ok (.istore_n 3, 1) := by decide +kernel
theorem d_87_3__2 : decode prog_87_method_3_code 2 = .ok (.iconst 0, 1) := by decide +kernel
theorem d_87_3__3 : decode prog_87_method_3_code 3 = .ok (.istore 4, 2) := by decide +kernel
theorem d_87_3__5 : decode prog_87_method_3_code 5 = .ok (.iload 4, 2) := by decide +kernel
theorem d_87_3__7 : decode prog_87_method_3_code 7 = .ok (.iload_n 2, 1) := by decide +kernel
theorem d_87_3__8 : decode prog_87_method_3_code 8 = .ok (.if_icmp .ge 42, 3) := by decide +kernel
theorem d_87_3__11 : decode prog_87_method_3_code 11 = .ok (.aload_n 0, 1) := by decide +kernel
theorem d_87_3__12 : decode prog_87_method_3_code 12 = .ok (.aload_n 1, 1) := by decide +kernel
theorem d_87_3__13 : decode prog_87_method_3_code 13 = .ok (.iload 4, 2) := by decide +kernel
theorem d_87_3__15 : decode prog_87_method_3_code 15 = .ok (.iaload, 1) := by decide +kernel
theorem d_87_3__16 : decode prog_87_method_3_code 16 = .ok (.iload_n 3, 1) := by decide +kernel
theorem d_87_3__17 : decode prog_87_method_3_code 17 = .ok (.invokevirtual 42, 3) := by decide +kernel
theorem d_87_3__20 : decode prog_87_method_3_code 20 = .ok (.istore_n 3, 1) := by decide +kernel
theorem d_87_3__21 : decode prog_87_method_3_code 21 = .ok (.iload_n 3, 1) := by decide +kernel
theorem d_87_3__22 : decode prog_87_method_3_code 22 = .ok (.ifCond .lt 20, 3) := by decide +kernel
theorem d_87_3__25 : decode prog_87_method_3_code 25 = .ok (.aload_n 0, 1) := by decide +kernel
theorem d_87_3__26 : decode prog_87_method_3_code 26 = .ok (.getfield 7, 3) := by decide +kernel
theorem d_87_3__29 : decode prog_87_method_3_code 29 = .ok (.iload_n 3, 1) := by decide +kernel
theorem d_87_3__30 : decode prog_87_method_3_code 30 = .ok (.iconst 1, 1) := by decide +kernel
theorem d_87_3__31 : decode prog_87_method_3_code 31 = .ok (.iadd, 1) := by decide +kernel
theorem d_87_3__32 : decode prog_87_method_3_code 32 = .ok (.iaload, 1) := by decide +kernel
theorem d_87_3__33 : decode prog_87_method_3_code 33 = .ok (.aload_n 1, 1) := by decide +kernel
theorem d_87_3__34 : decode prog_87_method_3_code 34 = .ok (.iload 4, 2) := by decide +kernel
theorem d_87_3__36 : decode prog_87_method_3_code 36 = .ok (.iconst 1, 1) := by decide +kernel
theorem d_87_3__37 : decode prog_87_method_3_code 37 = .ok (.iadd, 1) := by decide +kernel
theorem d_87_3__38 : decode prog_87_method_3_code 38 = .ok (.iaload, 1) := by decide +kernel
theorem d_87_3__39 : decode prog_87_method_3_code 39 = .ok (.if_icmp .ge 5, 3) := by decide +kernel
theorem d_87_3__42 : decode prog_87_method_3_code 42 = .ok (.iconst 0, 1) := by decide +kernel
theorem d_87_3__43 : decode prog_87_method_3_code 43 = .ok (.ireturn, 1) := by decide +kernel
theorem d_87_3__44 : decode prog_87_method_3_code 44 = .ok (.iinc 4 2, 3) := by decide +kernel
theorem d_87_3__47 : decode prog_87_method_3_code 47 = .ok (.goto (-42), 3) := by decide +kernel
theorem d_87_3__50 : decode prog_87_method_3_code 50 = .ok (.iconst 1, 1) := by decide +kernel
theorem d_87_3__51 : decode prog_87_method_3_code 51 = .ok (.ireturn, 1) := by decide +kernel
set_option maxRecDepth 65536 in
set_option maxHeartbeats 40000000 in
theorem rmCv (l : Launch) (Z : State) (a0 : Array Value) (hw : ∀ d ∈ tables_1, d.before a0 Z = true) (a hv ov : Addr) (z0 z1 x0 x1 : Int32) (h0 : Heap) (nz0 : ¬ z0 < (0 : Int32)) (nz1 : ¬ z1 < (0 : Int32)) (E : Exa Z h0 a "com/example/tracemass/tracemass/qstates/SilentPath$Pairs") (F1 : Fld Z h0 a "com/example/tracemass/tracemass/qstates/SilentPath$Pairs" "values" "[I" (.ref hv)) (F2 : Fld Z h0 a "com/example/tracemass/tracemass/qstates/SilentPath$Pairs" "length" "I" (.int (own_pl z0 z1))) (V : AV Z h0 hv .int (own_pr z0 z1)) (W : AV Z h0 ov .int (own_pr x0 x1)) : Con l Z (⟨"com/example/tracemass/tracemass/qstates/SilentPath$Pairs", "covers", "([II)Z"⟩ : MethodName) prog_87_method_3_code 5 (some .boolean) [] ({ frames := 1, cells := 0, slots := 0, locals := 24 } : Room) #[(.ref a), (.ref ov), (.int (own_pl x0 x1))] h0 (fun v h L => v = some (.int (own_cv z0 z1 x0 x1)) ∧ L = [] ∧ h = h0) := by
  refine Con.of (plainFor_of_name pn_com_example_tracemass_tracemass_qstates_SilentPath_Pairs) ?_
  intro p e s m below meth c T X hx hby hml hown hnm hret eT hZ hsh Φ fin
  replace hown : s.vm.findClass "com/example/tracemass/tracemass/qstates/SilentPath$Pairs" = some m.cls := hown
  replace hml : 5 = c.maxLocals := hml.symm
  refine own_step (fun tq kq => castTop (ef_rmCv m a ov (own_pl x0 x1)) kq) ?_
  by_cases gz0 : (0 : Int32) < z0
  · by_cases gz1 : (0 : Int32) < z1
    · by_cases gx0 : (0 : Int32) < x0
      · by_cases gx1 : (0 : Int32) < x1
        · have ez : own_pr z0 z1 = [(.int (0 : Int32)), (.int z0), (.int (1 : Int32)), (.int z1)] := by rw [own_pr, if_pos gz0, if_pos gz1]; rfl
          have lz : own_pl z0 z1 = (4 : Int32) := by rw [own_pl, if_pos gz0, if_pos gz1]; decide
          have ex : own_pr x0 x1 = [(.int (0 : Int32)), (.int x0), (.int (1 : Int32)), (.int x1)] := by rw [own_pr, if_pos gx0, if_pos gx1]; rfl
          have lx : own_pl x0 x1 = (4 : Int32) := by rw [own_pl, if_pos gx0, if_pos gx1]; decide
          rw [ez] at V
          rw [lz] at F2
          rw [ex] at W
          rw [lx]
          show GoP p e below Φ (T.setTop (mkF m 0 #[.val (.ref a), .val (.ref ov), .val (.int (4 : Int32)), .unset, .unset] []))
          refine own_iconst X hx hby d_87_3__0 (v := (0 : Int32)) rfl (pc' := 1) rfl ?_
          refine own_istoreN X hx hby d_87_3__1  (Ls' := #[.val (.ref a), .val (.ref ov), .val (.int (4 : Int32)), .val (.int (0 : Int32)), .unset]) rfl (pc' := 2) rfl ?_
          refine own_iconst X hx hby d_87_3__2 (v := (0 : Int32)) rfl (pc' := 3) rfl ?_
          refine own_istore X hx hby d_87_3__3  (Ls' := #[.val (.ref a), .val (.ref ov), .val (.int (4 : Int32)), .val (.int (0 : Int32)), .val (.int (0 : Int32))]) rfl (pc' := 5) rfl ?_
          refine own_iload X hx hby d_87_3__5 rfl (pc' := 7) rfl ?_
          refine own_iloadN X hx hby d_87_3__7 rfl (pc' := 8) rfl ?_
          refine own_icmpN X hx hby d_87_3__8 (tlt (by decide)).2.1 (pc' := 11) rfl ?_
          refine own_aloadN X hx hby d_87_3__11 rfl rfl (pc' := 12) rfl ?_
          refine own_aloadN X hx hby d_87_3__12 rfl rfl (pc' := 13) rfl ?_
          refine own_iload X hx hby d_87_3__13 rfl (pc' := 15) rfl ?_
          refine own_iaload X hx hby hZ eT W (by decide) (v := (.int (0 : Int32))) rfl d_87_3__15 (pc' := 16) rfl ?_
          refine own_iloadN X hx hby d_87_3__16 rfl (pc' := 17) rfl ?_
          refine own_callP X hx hby hZ (by exact hml) hown (own_w hw 212 rfl) (own_w hw 214 rfl) (own_selfsel (z := ({ cls := "com/example/tracemass/tracemass/qstates/SilentPath$Pairs", name := "read", desc := "(Lcom/example/tracemass/tracemass/nets/Marking;[ZI)V" } : Jvm.MethodName)) (own_w hw 213 rfl) (own_w hw 214 rfl) rfl (own_w hw 168 rfl) (by decide)) (own_w hw 213 rfl) (own_w hw 102 rfl) (own_w hw 215 rfl) (by decide) eT 0 (by decide) (by decide) (by decide) (by decide) (argsL := [(.int (0 : Int32)), (.int (0 : Int32))]) (rest := []) (lenOf pd__II_I rfl) rfl (Nat.le_of_eq rfl) E (rmIx3_0 l Z a0 hw a hv z0 z1 h0 F1 F2 V) d_87_3__17 (pc' := 20) rfl ?_
          intro v1 T1 L1 X1 hQ1
          obtain ⟨rfl, rfl, e1⟩ := hQ1
          rw [List.append_nil] at X1
          replace e1 : T1.heap = h0 := e1
          show GoP p e below Φ (T1.setTop (mkF m 20 #[.val (.ref a), .val (.ref ov), .val (.int (4 : Int32)), .val (.int (0 : Int32)), .val (.int (0 : Int32))] [(.int (0 : Int32))]))
          refine own_istoreN X1 hx hby d_87_3__20  (Ls' := #[.val (.ref a), .val (.ref ov), .val (.int (4 : Int32)), .val (.int (0 : Int32)), .val (.int (0 : Int32))]) rfl (pc' := 21) rfl ?_
          refine own_iloadN X1 hx hby d_87_3__21 rfl (pc' := 22) rfl ?_
          refine own_ifN X1 hx hby d_87_3__22 ((if0 _ _).trans (flt (by decide)).1) (pc' := 25) rfl ?_
          refine own_aloadN X1 hx hby d_87_3__25 rfl rfl (pc' := 26) rfl ?_
          refine own_getF X1 hx hby hZ hown (host := "") (Or.inl (own_w hw 107 rfl)) Via.refl e1 F1 d_87_3__26 (pc' := 29) rfl ?_
          intro T2 X2 e2
          refine own_iloadN X2 hx hby d_87_3__29 rfl (pc' := 30) rfl ?_
          refine own_iconst X2 hx hby d_87_3__30 (v := (1 : Int32)) rfl (pc' := 31) rfl ?_
          refine own_iadd X2 hx hby d_87_3__31 (pc' := 32) rfl ?_
          show GoP p e below Φ (T2.setTop (mkF m 32 #[.val (.ref a), .val (.ref ov), .val (.int (4 : Int32)), .val (.int (0 : Int32)), .val (.int (0 : Int32))] [(.int (1 : Int32)), (.ref hv)]))
          refine own_iaload X2 hx hby hZ e2 V (by decide) (v := (.int z0)) rfl d_87_3__32 (pc' := 33) rfl ?_
          refine own_aloadN X2 hx hby d_87_3__33 rfl rfl (pc' := 34) rfl ?_
          refine own_iload X2 hx hby d_87_3__34 rfl (pc' := 36) rfl ?_
          refine own_iconst X2 hx hby d_87_3__36 (v := (1 : Int32)) rfl (pc' := 37) rfl ?_
          refine own_iadd X2 hx hby d_87_3__37 (pc' := 38) rfl ?_
          show GoP p e below Φ (T2.setTop (mkF m 38 #[.val (.ref a), .val (.ref ov), .val (.int (4 : Int32)), .val (.int (0 : Int32)), .val (.int (0 : Int32))] [(.int (1 : Int32)), (.ref ov), (.int z0)]))
          refine own_iaload X2 hx hby hZ e2 W (by decide) (v := (.int x0)) rfl d_87_3__38 (pc' := 39) rfl ?_
          by_cases hc39_3 : z0 < x0
          · refine own_icmpN X2 hx hby d_87_3__39 (tlt hc39_3).2.1 (pc' := 42) rfl ?_
            refine own_iconst X2 hx hby d_87_3__42 (v := (0 : Int32)) rfl (pc' := 43) rfl ?_
            exact own_retN X2 hx hby fin hret (by simp) rfl d_87_3__43 (by decide) (by decide) ⟨by rw [(own_cva hc39_3)], rfl, e2⟩
          · refine own_icmpY X2 hx hby d_87_3__39 (flt hc39_3).2.1 (by decide) (pc' := 44) (by decide) ?_
            refine own_iinc X2 hx hby d_87_3__44 rfl (v := (2 : Int32)) rfl (Ls' := #[.val (.ref a), .val (.ref ov), .val (.int (4 : Int32)), .val (.int (0 : Int32)), .val (.int (2 : Int32))]) rfl (pc' := 47) rfl ?_
            refine own_goto X2 hx hby d_87_3__47 (by decide) (pc' := 5) (by decide) ?_
            refine own_iload X2 hx hby d_87_3__5 rfl (pc' := 7) rfl ?_
            refine own_iloadN X2 hx hby d_87_3__7 rfl (pc' := 8) rfl ?_
            refine own_icmpN X2 hx hby d_87_3__8 (tlt (by decide)).2.1 (pc' := 11) rfl ?_
            refine own_aloadN X2 hx hby d_87_3__11 rfl rfl (pc' := 12) rfl ?_
            refine own_aloadN X2 hx hby d_87_3__12 rfl rfl (pc' := 13) rfl ?_
            refine own_iload X2 hx hby d_87_3__13 rfl (pc' := 15) rfl ?_
            refine own_iaload X2 hx hby hZ e2 W (by decide) (v := (.int (1 : Int32))) rfl d_87_3__15 (pc' := 16) rfl ?_
            refine own_iloadN X2 hx hby d_87_3__16 rfl (pc' := 17) rfl ?_
            refine own_callP X2 hx hby hZ (by exact hml) hown (own_w hw 212 rfl) (own_w hw 214 rfl) (own_selfsel (z := ({ cls := "com/example/tracemass/tracemass/qstates/SilentPath$Pairs", name := "read", desc := "(Lcom/example/tracemass/tracemass/nets/Marking;[ZI)V" } : Jvm.MethodName)) (own_w hw 213 rfl) (own_w hw 214 rfl) rfl (own_w hw 168 rfl) (by decide)) (own_w hw 213 rfl) (own_w hw 102 rfl) (own_w hw 215 rfl) (by decide) e2 0 (by decide) (by decide) (by decide) (by decide) (argsL := [(.int (1 : Int32)), (.int (0 : Int32))]) (rest := []) (lenOf pd__II_I rfl) rfl (Nat.le_of_eq rfl) E (rmIx3_1 l Z a0 hw a hv z0 z1 h0 F1 F2 V) d_87_3__17 (pc' := 20) rfl ?_
            intro v4 T4 L4 X4 hQ4
            obtain ⟨rfl, rfl, e4⟩ := hQ4
            rw [List.append_nil] at X4
            replace e4 : T4.heap = h0 := e4
            show GoP p e below Φ (T4.setTop (mkF m 20 #[.val (.ref a), .val (.ref ov), .val (.int (4 : Int32)), .val (.int (0 : Int32)), .val (.int (2 : Int32))] [(.int (2 : Int32))]))
            refine own_istoreN X4 hx hby d_87_3__20  (Ls' := #[.val (.ref a), .val (.ref ov), .val (.int (4 : Int32)), .val (.int (2 : Int32)), .val (.int (2 : Int32))]) rfl (pc' := 21) rfl ?_
            refine own_iloadN X4 hx hby d_87_3__21 rfl (pc' := 22) rfl ?_
            refine own_ifN X4 hx hby d_87_3__22 ((if0 _ _).trans (flt (by decide)).1) (pc' := 25) rfl ?_
            refine own_aloadN X4 hx hby d_87_3__25 rfl rfl (pc' := 26) rfl ?_
            refine own_getF X4 hx hby hZ hown (host := "") (Or.inl (own_w hw 107 rfl)) Via.refl e4 F1 d_87_3__26 (pc' := 29) rfl ?_
            intro T5 X5 e5
            refine own_iloadN X5 hx hby d_87_3__29 rfl (pc' := 30) rfl ?_
            refine own_iconst X5 hx hby d_87_3__30 (v := (1 : Int32)) rfl (pc' := 31) rfl ?_
            refine own_iadd X5 hx hby d_87_3__31 (pc' := 32) rfl ?_
            show GoP p e below Φ (T5.setTop (mkF m 32 #[.val (.ref a), .val (.ref ov), .val (.int (4 : Int32)), .val (.int (2 : Int32)), .val (.int (2 : Int32))] [(.int (3 : Int32)), (.ref hv)]))
            refine own_iaload X5 hx hby hZ e5 V (by decide) (v := (.int z1)) rfl d_87_3__32 (pc' := 33) rfl ?_
            refine own_aloadN X5 hx hby d_87_3__33 rfl rfl (pc' := 34) rfl ?_
            refine own_iload X5 hx hby d_87_3__34 rfl (pc' := 36) rfl ?_
            refine own_iconst X5 hx hby d_87_3__36 (v := (1 : Int32)) rfl (pc' := 37) rfl ?_
            refine own_iadd X5 hx hby d_87_3__37 (pc' := 38) rfl ?_
            show GoP p e below Φ (T5.setTop (mkF m 38 #[.val (.ref a), .val (.ref ov), .val (.int (4 : Int32)), .val (.int (2 : Int32)), .val (.int (2 : Int32))] [(.int (3 : Int32)), (.ref ov), (.int z1)]))
            refine own_iaload X5 hx hby hZ e5 W (by decide) (v := (.int x1)) rfl d_87_3__38 (pc' := 39) rfl ?_
            by_cases hc39_6 : z1 < x1
            · refine own_icmpN X5 hx hby d_87_3__39 (tlt hc39_6).2.1 (pc' := 42) rfl ?_
              refine own_iconst X5 hx hby d_87_3__42 (v := (0 : Int32)) rfl (pc' := 43) rfl ?_
              exact own_retN X5 hx hby fin hret (by simp) rfl d_87_3__43 (by decide) (by decide) ⟨by rw [(own_cvb hc39_6)], rfl, e5⟩
            · refine own_icmpY X5 hx hby d_87_3__39 (flt hc39_6).2.1 (by decide) (pc' := 44) (by decide) ?_
              refine own_iinc X5 hx hby d_87_3__44 rfl (v := (2 : Int32)) rfl (Ls' := #[.val (.ref a), .val (.ref ov), .val (.int (4 : Int32)), .val (.int (2 : Int32)), .val (.int (4 : Int32))]) rfl (pc' := 47) rfl ?_
              refine own_goto X5 hx hby d_87_3__47 (by decide) (pc' := 5) (by decide) ?_
              refine own_iload X5 hx hby d_87_3__5 rfl (pc' := 7) rfl ?_
              refine own_iloadN X5 hx hby d_87_3__7 rfl (pc' := 8) rfl ?_
              refine own_icmpY X5 hx hby d_87_3__8 (flt (by decide)).2.1 (by decide) (pc' := 50) (by decide) ?_
              refine own_iconst X5 hx hby d_87_3__50 (v := (1 : Int32)) rfl (pc' := 51) rfl ?_
              exact own_retN X5 hx hby fin hret (by simp) rfl d_87_3__51 (by decide) (by decide) ⟨by rw [(own_cvc hc39_3 hc39_6)], rfl, e5⟩
        · have ez : own_pr z0 z1 = [(.int (0 : Int32)), (.int z0), (.int (1 : Int32)), (.int z1)] := by rw [own_pr, if_pos gz0, if_pos gz1]; rfl
          have lz : own_pl z0 z1 = (4 : Int32) := by rw [own_pl, if_pos gz0, if_pos gz1]; decide
          have ex : own_pr x0 x1 = [(.int (0 : Int32)), (.int x0)] := by rw [own_pr, if_pos gx0, if_neg gx1]; rfl
          have lx : own_pl x0 x1 = (2 : Int32) := by rw [own_pl, if_pos gx0, if_neg gx1]; decide
          rw [ez] at V
          rw [lz] at F2
          rw [ex] at W
          rw [lx]
          show GoP p e below Φ (T.setTop (mkF m 0 #[.val (.ref a), .val (.ref ov), .val (.int (2 : Int32)), .unset, .unset] []))
          refine own_iconst X hx hby d_87_3__0 (v := (0 : Int32)) rfl (pc' := 1) rfl ?_
          refine own_istoreN X hx hby d_87_3__1  (Ls' := #[.val (.ref a), .val (.ref ov), .val (.int (2 : Int32)), .val (.int (0 : Int32)), .unset]) rfl (pc' := 2) rfl ?_
          refine own_iconst X hx hby d_87_3__2 (v := (0 : Int32)) rfl (pc' := 3) rfl ?_
          refine own_istore X hx hby d_87_3__3  (Ls' := #[.val (.ref a), .val (.ref ov), .val (.int (2 : Int32)), .val (.int (0 : Int32)), .val (.int (0 : Int32))]) rfl (pc' := 5) rfl ?_
          refine own_iload X hx hby d_87_3__5 rfl (pc' := 7) rfl ?_
          refine own_iloadN X hx hby d_87_3__7 rfl (pc' := 8) rfl ?_
          refine own_icmpN X hx hby d_87_3__8 (tlt (by decide)).2.1 (pc' := 11) rfl ?_
          refine own_aloadN X hx hby d_87_3__11 rfl rfl (pc' := 12) rfl ?_
          refine own_aloadN X hx hby d_87_3__12 rfl rfl (pc' := 13) rfl ?_
          refine own_iload X hx hby d_87_3__13 rfl (pc' := 15) rfl ?_
          refine own_iaload X hx hby hZ eT W (by decide) (v := (.int (0 : Int32))) rfl d_87_3__15 (pc' := 16) rfl ?_
          refine own_iloadN X hx hby d_87_3__16 rfl (pc' := 17) rfl ?_
          refine own_callP X hx hby hZ (by exact hml) hown (own_w hw 212 rfl) (own_w hw 214 rfl) (own_selfsel (z := ({ cls := "com/example/tracemass/tracemass/qstates/SilentPath$Pairs", name := "read", desc := "(Lcom/example/tracemass/tracemass/nets/Marking;[ZI)V" } : Jvm.MethodName)) (own_w hw 213 rfl) (own_w hw 214 rfl) rfl (own_w hw 168 rfl) (by decide)) (own_w hw 213 rfl) (own_w hw 102 rfl) (own_w hw 215 rfl) (by decide) eT 0 (by decide) (by decide) (by decide) (by decide) (argsL := [(.int (0 : Int32)), (.int (0 : Int32))]) (rest := []) (lenOf pd__II_I rfl) rfl (Nat.le_of_eq rfl) E (rmIx3_0 l Z a0 hw a hv z0 z1 h0 F1 F2 V) d_87_3__17 (pc' := 20) rfl ?_
          intro v7 T7 L7 X7 hQ7
          obtain ⟨rfl, rfl, e7⟩ := hQ7
          rw [List.append_nil] at X7
          replace e7 : T7.heap = h0 := e7
          show GoP p e below Φ (T7.setTop (mkF m 20 #[.val (.ref a), .val (.ref ov), .val (.int (2 : Int32)), .val (.int (0 : Int32)), .val (.int (0 : Int32))] [(.int (0 : Int32))]))
          refine own_istoreN X7 hx hby d_87_3__20  (Ls' := #[.val (.ref a), .val (.ref ov), .val (.int (2 : Int32)), .val (.int (0 : Int32)), .val (.int (0 : Int32))]) rfl (pc' := 21) rfl ?_
          refine own_iloadN X7 hx hby d_87_3__21 rfl (pc' := 22) rfl ?_
          refine own_ifN X7 hx hby d_87_3__22 ((if0 _ _).trans (flt (by decide)).1) (pc' := 25) rfl ?_
          refine own_aloadN X7 hx hby d_87_3__25 rfl rfl (pc' := 26) rfl ?_
          refine own_getF X7 hx hby hZ hown (host := "") (Or.inl (own_w hw 107 rfl)) Via.refl e7 F1 d_87_3__26 (pc' := 29) rfl ?_
          intro T8 X8 e8
          refine own_iloadN X8 hx hby d_87_3__29 rfl (pc' := 30) rfl ?_
          refine own_iconst X8 hx hby d_87_3__30 (v := (1 : Int32)) rfl (pc' := 31) rfl ?_
          refine own_iadd X8 hx hby d_87_3__31 (pc' := 32) rfl ?_
          show GoP p e below Φ (T8.setTop (mkF m 32 #[.val (.ref a), .val (.ref ov), .val (.int (2 : Int32)), .val (.int (0 : Int32)), .val (.int (0 : Int32))] [(.int (1 : Int32)), (.ref hv)]))
          refine own_iaload X8 hx hby hZ e8 V (by decide) (v := (.int z0)) rfl d_87_3__32 (pc' := 33) rfl ?_
          refine own_aloadN X8 hx hby d_87_3__33 rfl rfl (pc' := 34) rfl ?_
          refine own_iload X8 hx hby d_87_3__34 rfl (pc' := 36) rfl ?_
          refine own_iconst X8 hx hby d_87_3__36 (v := (1 : Int32)) rfl (pc' := 37) rfl ?_
          refine own_iadd X8 hx hby d_87_3__37 (pc' := 38) rfl ?_
          show GoP p e below Φ (T8.setTop (mkF m 38 #[.val (.ref a), .val (.ref ov), .val (.int (2 : Int32)), .val (.int (0 : Int32)), .val (.int (0 : Int32))] [(.int (1 : Int32)), (.ref ov), (.int z0)]))
          refine own_iaload X8 hx hby hZ e8 W (by decide) (v := (.int x0)) rfl d_87_3__38 (pc' := 39) rfl ?_
          by_cases hc39_9 : z0 < x0
          · refine own_icmpN X8 hx hby d_87_3__39 (tlt hc39_9).2.1 (pc' := 42) rfl ?_
            refine own_iconst X8 hx hby d_87_3__42 (v := (0 : Int32)) rfl (pc' := 43) rfl ?_
            exact own_retN X8 hx hby fin hret (by simp) rfl d_87_3__43 (by decide) (by decide) ⟨by rw [(own_cva hc39_9)], rfl, e8⟩
          · refine own_icmpY X8 hx hby d_87_3__39 (flt hc39_9).2.1 (by decide) (pc' := 44) (by decide) ?_
            refine own_iinc X8 hx hby d_87_3__44 rfl (v := (2 : Int32)) rfl (Ls' := #[.val (.ref a), .val (.ref ov), .val (.int (2 : Int32)), .val (.int (0 : Int32)), .val (.int (2 : Int32))]) rfl (pc' := 47) rfl ?_
            refine own_goto X8 hx hby d_87_3__47 (by decide) (pc' := 5) (by decide) ?_
            refine own_iload X8 hx hby d_87_3__5 rfl (pc' := 7) rfl ?_
            refine own_iloadN X8 hx hby d_87_3__7 rfl (pc' := 8) rfl ?_
            refine own_icmpY X8 hx hby d_87_3__8 (flt (by decide)).2.1 (by decide) (pc' := 50) (by decide) ?_
            refine own_iconst X8 hx hby d_87_3__50 (v := (1 : Int32)) rfl (pc' := 51) rfl ?_
            exact own_retN X8 hx hby fin hret (by simp) rfl d_87_3__51 (by decide) (by decide) ⟨by rw [(own_cvc hc39_9 (own_l2 nz1 gx1))], rfl, e8⟩
      · by_cases gx1 : (0 : Int32) < x1
        · have ez : own_pr z0 z1 = [(.int (0 : Int32)), (.int z0), (.int (1 : Int32)), (.int z1)] := by rw [own_pr, if_pos gz0, if_pos gz1]; rfl
          have lz : own_pl z0 z1 = (4 : Int32) := by rw [own_pl, if_pos gz0, if_pos gz1]; decide
          have ex : own_pr x0 x1 = [(.int (1 : Int32)), (.int x1)] := by rw [own_pr, if_neg gx0, if_pos gx1]; rfl
          have lx : own_pl x0 x1 = (2 : Int32) := by rw [own_pl, if_neg gx0, if_pos gx1]; decide
          rw [ez] at V
          rw [lz] at F2
          rw [ex] at W
          rw [lx]
          show GoP p e below Φ (T.setTop (mkF m 0 #[.val (.ref a), .val (.ref ov), .val (.int (2 : Int32)), .unset, .unset] []))
          refine own_iconst X hx hby d_87_3__0 (v := (0 : Int32)) rfl (pc' := 1) rfl ?_
          refine own_istoreN X hx hby d_87_3__1  (Ls' := #[.val (.ref a), .val (.ref ov), .val (.int (2 : Int32)), .val (.int (0 : Int32)), .unset]) rfl (pc' := 2) rfl ?_
          refine own_iconst X hx hby d_87_3__2 (v := (0 : Int32)) rfl (pc' := 3) rfl ?_
          refine own_istore X hx hby d_87_3__3  (Ls' := #[.val (.ref a), .val (.ref ov), .val (.int (2 : Int32)), .val (.int (0 : Int32)), .val (.int (0 : Int32))]) rfl (pc' := 5) rfl ?_
          refine own_iload X hx hby d_87_3__5 rfl (pc' := 7) rfl ?_
          refine own_iloadN X hx hby d_87_3__7 rfl (pc' := 8) rfl ?_
          refine own_icmpN X hx hby d_87_3__8 (tlt (by decide)).2.1 (pc' := 11) rfl ?_
          refine own_aloadN X hx hby d_87_3__11 rfl rfl (pc' := 12) rfl ?_
          refine own_aloadN X hx hby d_87_3__12 rfl rfl (pc' := 13) rfl ?_
          refine own_iload X hx hby d_87_3__13 rfl (pc' := 15) rfl ?_
          refine own_iaload X hx hby hZ eT W (by decide) (v := (.int (1 : Int32))) rfl d_87_3__15 (pc' := 16) rfl ?_
          refine own_iloadN X hx hby d_87_3__16 rfl (pc' := 17) rfl ?_
          refine own_callP X hx hby hZ (by exact hml) hown (own_w hw 212 rfl) (own_w hw 214 rfl) (own_selfsel (z := ({ cls := "com/example/tracemass/tracemass/qstates/SilentPath$Pairs", name := "read", desc := "(Lcom/example/tracemass/tracemass/nets/Marking;[ZI)V" } : Jvm.MethodName)) (own_w hw 213 rfl) (own_w hw 214 rfl) rfl (own_w hw 168 rfl) (by decide)) (own_w hw 213 rfl) (own_w hw 102 rfl) (own_w hw 215 rfl) (by decide) eT 0 (by decide) (by decide) (by decide) (by decide) (argsL := [(.int (1 : Int32)), (.int (0 : Int32))]) (rest := []) (lenOf pd__II_I rfl) rfl (Nat.le_of_eq rfl) E (rmIx3_1 l Z a0 hw a hv z0 z1 h0 F1 F2 V) d_87_3__17 (pc' := 20) rfl ?_
          intro v10 T10 L10 X10 hQ10
          obtain ⟨rfl, rfl, e10⟩ := hQ10
          rw [List.append_nil] at X10
          replace e10 : T10.heap = h0 := e10
          show GoP p e below Φ (T10.setTop (mkF m 20 #[.val (.ref a), .val (.ref ov), .val (.int (2 : Int32)), .val (.int (0 : Int32)), .val (.int (0 : Int32))] [(.int (2 : Int32))]))
          refine own_istoreN X10 hx hby d_87_3__20  (Ls' := #[.val (.ref a), .val (.ref ov), .val (.int (2 : Int32)), .val (.int (2 : Int32)), .val (.int (0 : Int32))]) rfl (pc' := 21) rfl ?_
          refine own_iloadN X10 hx hby d_87_3__21 rfl (pc' := 22) rfl ?_
          refine own_ifN X10 hx hby d_87_3__22 ((if0 _ _).trans (flt (by decide)).1) (pc' := 25) rfl ?_
          refine own_aloadN X10 hx hby d_87_3__25 rfl rfl (pc' := 26) rfl ?_
          refine own_getF X10 hx hby hZ hown (host := "") (Or.inl (own_w hw 107 rfl)) Via.refl e10 F1 d_87_3__26 (pc' := 29) rfl ?_
          intro T11 X11 e11
          refine own_iloadN X11 hx hby d_87_3__29 rfl (pc' := 30) rfl ?_
          refine own_iconst X11 hx hby d_87_3__30 (v := (1 : Int32)) rfl (pc' := 31) rfl ?_
          refine own_iadd X11 hx hby d_87_3__31 (pc' := 32) rfl ?_
          show GoP p e below Φ (T11.setTop (mkF m 32 #[.val (.ref a), .val (.ref ov), .val (.int (2 : Int32)), .val (.int (2 : Int32)), .val (.int (0 : Int32))] [(.int (3 : Int32)), (.ref hv)]))
          refine own_iaload X11 hx hby hZ e11 V (by decide) (v := (.int z1)) rfl d_87_3__32 (pc' := 33) rfl ?_
          refine own_aloadN X11 hx hby d_87_3__33 rfl rfl (pc' := 34) rfl ?_
          refine own_iload X11 hx hby d_87_3__34 rfl (pc' := 36) rfl ?_
          refine own_iconst X11 hx hby d_87_3__36 (v := (1 : Int32)) rfl (pc' := 37) rfl ?_
          refine own_iadd X11 hx hby d_87_3__37 (pc' := 38) rfl ?_
          show GoP p e below Φ (T11.setTop (mkF m 38 #[.val (.ref a), .val (.ref ov), .val (.int (2 : Int32)), .val (.int (2 : Int32)), .val (.int (0 : Int32))] [(.int (1 : Int32)), (.ref ov), (.int z1)]))
          refine own_iaload X11 hx hby hZ e11 W (by decide) (v := (.int x1)) rfl d_87_3__38 (pc' := 39) rfl ?_
          by_cases hc39_12 : z1 < x1
          · refine own_icmpN X11 hx hby d_87_3__39 (tlt hc39_12).2.1 (pc' := 42) rfl ?_
            refine own_iconst X11 hx hby d_87_3__42 (v := (0 : Int32)) rfl (pc' := 43) rfl ?_
            exact own_retN X11 hx hby fin hret (by simp) rfl d_87_3__43 (by decide) (by decide) ⟨by rw [(own_cvb hc39_12)], rfl, e11⟩
          · refine own_icmpY X11 hx hby d_87_3__39 (flt hc39_12).2.1 (by decide) (pc' := 44) (by decide) ?_
            refine own_iinc X11 hx hby d_87_3__44 rfl (v := (2 : Int32)) rfl (Ls' := #[.val (.ref a), .val (.ref ov), .val (.int (2 : Int32)), .val (.int (2 : Int32)), .val (.int (2 : Int32))]) rfl (pc' := 47) rfl ?_
            refine own_goto X11 hx hby d_87_3__47 (by decide) (pc' := 5) (by decide) ?_
            refine own_iload X11 hx hby d_87_3__5 rfl (pc' := 7) rfl ?_
            refine own_iloadN X11 hx hby d_87_3__7 rfl (pc' := 8) rfl ?_
            refine own_icmpY X11 hx hby d_87_3__8 (flt (by decide)).2.1 (by decide) (pc' := 50) (by decide) ?_
            refine own_iconst X11 hx hby d_87_3__50 (v := (1 : Int32)) rfl (pc' := 51) rfl ?_
            exact own_retN X11 hx hby fin hret (by simp) rfl d_87_3__51 (by decide) (by decide) ⟨by rw [(own_cvc (own_l2 nz0 gx0) hc39_12)], rfl, e11⟩
        · have ez : own_pr z0 z1 = [(.int (0 : Int32)), (.int z0), (.int (1 : Int32)), (.int z1)] := by rw [own_pr, if_pos gz0, if_pos gz1]; rfl
          have lz : own_pl z0 z1 = (4 : Int32) := by rw [own_pl, if_pos gz0, if_pos gz1]; decide
          have ex : own_pr x0 x1 = [] := by rw [own_pr, if_neg gx0, if_neg gx1]; rfl
          have lx : own_pl x0 x1 = (0 : Int32) := by rw [own_pl, if_neg gx0, if_neg gx1]; decide
          rw [ez] at V
          rw [lz] at F2
          rw [ex] at W
          rw [lx]
          show GoP p e below Φ (T.setTop (mkF m 0 #[.val (.ref a), .val (.ref ov), .val (.int (0 : Int32)), .unset, .unset] []))
          refine own_iconst X hx hby d_87_3__0 (v := (0 : Int32)) rfl (pc' := 1) rfl ?_
          refine own_istoreN X hx hby d_87_3__1  (Ls' := #[.val (.ref a), .val (.ref ov), .val (.int (0 : Int32)), .val (.int (0 : Int32)), .unset]) rfl (pc' := 2) rfl ?_
          refine own_iconst X hx hby d_87_3__2 (v := (0 : Int32)) rfl (pc' := 3) rfl ?_
          refine own_istore X hx hby d_87_3__3  (Ls' := #[.val (.ref a), .val (.ref ov), .val (.int (0 : Int32)), .val (.int (0 : Int32)), .val (.int (0 : Int32))]) rfl (pc' := 5) rfl ?_
          refine own_iload X hx hby d_87_3__5 rfl (pc' := 7) rfl ?_
          refine own_iloadN X hx hby d_87_3__7 rfl (pc' := 8) rfl ?_
          refine own_icmpY X hx hby d_87_3__8 (flt (by decide)).2.1 (by decide) (pc' := 50) (by decide) ?_
          refine own_iconst X hx hby d_87_3__50 (v := (1 : Int32)) rfl (pc' := 51) rfl ?_
          exact own_retN X hx hby fin hret (by simp) rfl d_87_3__51 (by decide) (by decide) ⟨by rw [(own_cvc (own_l2 nz0 gx0) (own_l2 nz1 gx1))], rfl, eT⟩
    · by_cases gx0 : (0 : Int32) < x0
      · by_cases gx1 : (0 : Int32) < x1
        · have ez : own_pr z0 z1 = [(.int (0 : Int32)), (.int z0)] := by rw [own_pr, if_pos gz0, if_neg gz1]; rfl
          have lz : own_pl z0 z1 = (2 : Int32) := by rw [own_pl, if_pos gz0, if_neg gz1]; decide
          have ex : own_pr x0 x1 = [(.int (0 : Int32)), (.int x0), (.int (1 : Int32)), (.int x1)] := by rw [own_pr, if_pos gx0, if_pos gx1]; rfl
          have lx : own_pl x0 x1 = (4 : Int32) := by rw [own_pl, if_pos gx0, if_pos gx1]; decide
          rw [ez] at V
          rw [lz] at F2
          rw [ex] at W
          rw [lx]
          show GoP p e below Φ (T.setTop (mkF m 0 #[.val (.ref a), .val (.ref ov), .val (.int (4 : Int32)), .unset, .unset] []))
          refine own_iconst X hx hby d_87_3__0 (v := (0 : Int32)) rfl (pc' := 1) rfl ?_
          refine own_istoreN X hx hby d_87_3__1  (Ls' := #[.val (.ref a), .val (.ref ov), .val (.int (4 : Int32)), .val (.int (0 : Int32)), .unset]) rfl (pc' := 2) rfl ?_
          refine own_iconst X hx hby d_87_3__2 (v := (0 : Int32)) rfl (pc' := 3) rfl ?_
          refine own_istore X hx hby d_87_3__3  (Ls' := #[.val (.ref a), .val (.ref ov), .val (.int (4 : Int32)), .val (.int (0 : Int32)), .val (.int (0 : Int32))]) rfl (pc' := 5) rfl ?_
          refine own_iload X hx hby d_87_3__5 rfl (pc' := 7) rfl ?_
          refine own_iloadN X hx hby d_87_3__7 rfl (pc' := 8) rfl ?_
          refine own_icmpN X hx hby d_87_3__8 (tlt (by decide)).2.1 (pc' := 11) rfl ?_
          refine own_aloadN X hx hby d_87_3__11 rfl rfl (pc' := 12) rfl ?_
          refine own_aloadN X hx hby d_87_3__12 rfl rfl (pc' := 13) rfl ?_
          refine own_iload X hx hby d_87_3__13 rfl (pc' := 15) rfl ?_
          refine own_iaload X hx hby hZ eT W (by decide) (v := (.int (0 : Int32))) rfl d_87_3__15 (pc' := 16) rfl ?_
          refine own_iloadN X hx hby d_87_3__16 rfl (pc' := 17) rfl ?_
          refine own_callP X hx hby hZ (by exact hml) hown (own_w hw 212 rfl) (own_w hw 214 rfl) (own_selfsel (z := ({ cls := "com/example/tracemass/tracemass/qstates/SilentPath$Pairs", name := "read", desc := "(Lcom/example/tracemass/tracemass/nets/Marking;[ZI)V" } : Jvm.MethodName)) (own_w hw 213 rfl) (own_w hw 214 rfl) rfl (own_w hw 168 rfl) (by decide)) (own_w hw 213 rfl) (own_w hw 102 rfl) (own_w hw 215 rfl) (by decide) eT 0 (by decide) (by decide) (by decide) (by decide) (argsL := [(.int (0 : Int32)), (.int (0 : Int32))]) (rest := []) (lenOf pd__II_I rfl) rfl (Nat.le_of_eq rfl) E (rmIx1_0 l Z a0 hw a hv z0 z1 h0 F1 F2 V) d_87_3__17 (pc' := 20) rfl ?_
          intro v13 T13 L13 X13 hQ13
          obtain ⟨rfl, rfl, e13⟩ := hQ13
          rw [List.append_nil] at X13
          replace e13 : T13.heap = h0 := e13
          show GoP p e below Φ (T13.setTop (mkF m 20 #[.val (.ref a), .val (.ref ov), .val (.int (4 : Int32)), .val (.int (0 : Int32)), .val (.int (0 : Int32))] [(.int (0 : Int32))]))
          refine own_istoreN X13 hx hby d_87_3__20  (Ls' := #[.val (.ref a), .val (.ref ov), .val (.int (4 : Int32)), .val (.int (0 : Int32)), .val (.int (0 : Int32))]) rfl (pc' := 21) rfl ?_
          refine own_iloadN X13 hx hby d_87_3__21 rfl (pc' := 22) rfl ?_
          refine own_ifN X13 hx hby d_87_3__22 ((if0 _ _).trans (flt (by decide)).1) (pc' := 25) rfl ?_
          refine own_aloadN X13 hx hby d_87_3__25 rfl rfl (pc' := 26) rfl ?_
          refine own_getF X13 hx hby hZ hown (host := "") (Or.inl (own_w hw 107 rfl)) Via.refl e13 F1 d_87_3__26 (pc' := 29) rfl ?_
          intro T14 X14 e14
          refine own_iloadN X14 hx hby d_87_3__29 rfl (pc' := 30) rfl ?_
          refine own_iconst X14 hx hby d_87_3__30 (v := (1 : Int32)) rfl (pc' := 31) rfl ?_
          refine own_iadd X14 hx hby d_87_3__31 (pc' := 32) rfl ?_
          show GoP p e below Φ (T14.setTop (mkF m 32 #[.val (.ref a), .val (.ref ov), .val (.int (4 : Int32)), .val (.int (0 : Int32)), .val (.int (0 : Int32))] [(.int (1 : Int32)), (.ref hv)]))
          refine own_iaload X14 hx hby hZ e14 V (by decide) (v := (.int z0)) rfl d_87_3__32 (pc' := 33) rfl ?_
          refine own_aloadN X14 hx hby d_87_3__33 rfl rfl (pc' := 34) rfl ?_
          refine own_iload X14 hx hby d_87_3__34 rfl (pc' := 36) rfl ?_
          refine own_iconst X14 hx hby d_87_3__36 (v := (1 : Int32)) rfl (pc' := 37) rfl ?_
          refine own_iadd X14 hx hby d_87_3__37 (pc' := 38) rfl ?_
          show GoP p e below Φ (T14.setTop (mkF m 38 #[.val (.ref a), .val (.ref ov), .val (.int (4 : Int32)), .val (.int (0 : Int32)), .val (.int (0 : Int32))] [(.int (1 : Int32)), (.ref ov), (.int z0)]))
          refine own_iaload X14 hx hby hZ e14 W (by decide) (v := (.int x0)) rfl d_87_3__38 (pc' := 39) rfl ?_
          by_cases hc39_15 : z0 < x0
          · refine own_icmpN X14 hx hby d_87_3__39 (tlt hc39_15).2.1 (pc' := 42) rfl ?_
            refine own_iconst X14 hx hby d_87_3__42 (v := (0 : Int32)) rfl (pc' := 43) rfl ?_
            exact own_retN X14 hx hby fin hret (by simp) rfl d_87_3__43 (by decide) (by decide) ⟨by rw [(own_cva hc39_15)], rfl, e14⟩
          · refine own_icmpY X14 hx hby d_87_3__39 (flt hc39_15).2.1 (by decide) (pc' := 44) (by decide) ?_
            refine own_iinc X14 hx hby d_87_3__44 rfl (v := (2 : Int32)) rfl (Ls' := #[.val (.ref a), .val (.ref ov), .val (.int (4 : Int32)), .val (.int (0 : Int32)), .val (.int (2 : Int32))]) rfl (pc' := 47) rfl ?_
            refine own_goto X14 hx hby d_87_3__47 (by decide) (pc' := 5) (by decide) ?_
            refine own_iload X14 hx hby d_87_3__5 rfl (pc' := 7) rfl ?_
            refine own_iloadN X14 hx hby d_87_3__7 rfl (pc' := 8) rfl ?_
            refine own_icmpN X14 hx hby d_87_3__8 (tlt (by decide)).2.1 (pc' := 11) rfl ?_
            refine own_aloadN X14 hx hby d_87_3__11 rfl rfl (pc' := 12) rfl ?_
            refine own_aloadN X14 hx hby d_87_3__12 rfl rfl (pc' := 13) rfl ?_
            refine own_iload X14 hx hby d_87_3__13 rfl (pc' := 15) rfl ?_
            refine own_iaload X14 hx hby hZ e14 W (by decide) (v := (.int (1 : Int32))) rfl d_87_3__15 (pc' := 16) rfl ?_
            refine own_iloadN X14 hx hby d_87_3__16 rfl (pc' := 17) rfl ?_
            refine own_callP X14 hx hby hZ (by exact hml) hown (own_w hw 212 rfl) (own_w hw 214 rfl) (own_selfsel (z := ({ cls := "com/example/tracemass/tracemass/qstates/SilentPath$Pairs", name := "read", desc := "(Lcom/example/tracemass/tracemass/nets/Marking;[ZI)V" } : Jvm.MethodName)) (own_w hw 213 rfl) (own_w hw 214 rfl) rfl (own_w hw 168 rfl) (by decide)) (own_w hw 213 rfl) (own_w hw 102 rfl) (own_w hw 215 rfl) (by decide) e14 0 (by decide) (by decide) (by decide) (by decide) (argsL := [(.int (1 : Int32)), (.int (0 : Int32))]) (rest := []) (lenOf pd__II_I rfl) rfl (Nat.le_of_eq rfl) E (rmIx1_1 l Z a0 hw a hv z0 z1 h0 F1 F2 V) d_87_3__17 (pc' := 20) rfl ?_
            intro v16 T16 L16 X16 hQ16
            obtain ⟨rfl, rfl, e16⟩ := hQ16
            rw [List.append_nil] at X16
            replace e16 : T16.heap = h0 := e16
            show GoP p e below Φ (T16.setTop (mkF m 20 #[.val (.ref a), .val (.ref ov), .val (.int (4 : Int32)), .val (.int (0 : Int32)), .val (.int (2 : Int32))] [(.int (-1 : Int32))]))
            refine own_istoreN X16 hx hby d_87_3__20  (Ls' := #[.val (.ref a), .val (.ref ov), .val (.int (4 : Int32)), .val (.int (-1 : Int32)), .val (.int (2 : Int32))]) rfl (pc' := 21) rfl ?_
            refine own_iloadN X16 hx hby d_87_3__21 rfl (pc' := 22) rfl ?_
            refine own_ifY X16 hx hby d_87_3__22 ((if0 _ _).trans (tlt (by decide)).1) (by decide) (pc' := 42) (by decide) ?_
            refine own_iconst X16 hx hby d_87_3__42 (v := (0 : Int32)) rfl (pc' := 43) rfl ?_
            exact own_retN X16 hx hby fin hret (by simp) rfl d_87_3__43 (by decide) (by decide) ⟨by rw [(own_cvb (own_l1 gz1 gx1))], rfl, e16⟩
        · have ez : own_pr z0 z1 = [(.int (0 : Int32)), (.int z0)] := by rw [own_pr, if_pos gz0, if_neg gz1]; rfl
          have lz : own_pl z0 z1 = (2 : Int32) := by rw [own_pl, if_pos gz0, if_neg gz1]; decide
          have ex : own_pr x0 x1 = [(.int (0 : Int32)), (.int x0)] := by rw [own_pr, if_pos gx0, if_neg gx1]; rfl
          have lx : own_pl x0 x1 = (2 : Int32) := by rw [own_pl, if_pos gx0, if_neg gx1]; decide
          rw [ez] at V
          rw [lz] at F2
          rw [ex] at W
          rw [lx]
          show GoP p e below Φ (T.setTop (mkF m 0 #[.val (.ref a), .val (.ref ov), .val (.int (2 : Int32)), .unset, .unset] []))
          refine own_iconst X hx hby d_87_3__0 (v := (0 : Int32)) rfl (pc' := 1) rfl ?_
          refine own_istoreN X hx hby d_87_3__1  (Ls' := #[.val (.ref a), .val (.ref ov), .val (.int (2 : Int32)), .val (.int (0 : Int32)), .unset]) rfl (pc' := 2) rfl ?_
          refine own_iconst X hx hby d_87_3__2 (v := (0 : Int32)) rfl (pc' := 3) rfl ?_
          refine own_istore X hx hby d_87_3__3  (Ls' := #[.val (.ref a), .val (.ref ov), .val (.int (2 : Int32)), .val (.int (0 : Int32)), .val (.int (0 : Int32))]) rfl (pc' := 5) rfl ?_
          refine own_iload X hx hby d_87_3__5 rfl (pc' := 7) rfl ?_
          refine own_iloadN X hx hby d_87_3__7 rfl (pc' := 8) rfl ?_
          refine own_icmpN X hx hby d_87_3__8 (tlt (by decide)).2.1 (pc' := 11) rfl ?_
          refine own_aloadN X hx hby d_87_3__11 rfl rfl (pc' := 12) rfl ?_
          refine own_aloadN X hx hby d_87_3__12 rfl rfl (pc' := 13) rfl ?_
          refine own_iload X hx hby d_87_3__13 rfl (pc' := 15) rfl ?_
          refine own_iaload X hx hby hZ eT W (by decide) (v := (.int (0 : Int32))) rfl d_87_3__15 (pc' := 16) rfl ?_
          refine own_iloadN X hx hby d_87_3__16 rfl (pc' := 17) rfl ?_
          refine own_callP X hx hby hZ (by exact hml) hown (own_w hw 212 rfl) (own_w hw 214 rfl) (own_selfsel (z := ({ cls := "com/example/tracemass/tracemass/qstates/SilentPath$Pairs", name := "read", desc := "(Lcom/example/tracemass/tracemass/nets/Marking;[ZI)V" } : Jvm.MethodName)) (own_w hw 213 rfl) (own_w hw 214 rfl) rfl (own_w hw 168 rfl) (by decide)) (own_w hw 213 rfl) (own_w hw 102 rfl) (own_w hw 215 rfl) (by decide) eT 0 (by decide) (by decide) (by decide) (by decide) (argsL := [(.int (0 : Int32)), (.int (0 : Int32))]) (rest := []) (lenOf pd__II_I rfl) rfl (Nat.le_of_eq rfl) E (rmIx1_0 l Z a0 hw a hv z0 z1 h0 F1 F2 V) d_87_3__17 (pc' := 20) rfl ?_
          intro v17 T17 L17 X17 hQ17
          obtain ⟨rfl, rfl, e17⟩ := hQ17
          rw [List.append_nil] at X17
          replace e17 : T17.heap = h0 := e17
          show GoP p e below Φ (T17.setTop (mkF m 20 #[.val (.ref a), .val (.ref ov), .val (.int (2 : Int32)), .val (.int (0 : Int32)), .val (.int (0 : Int32))] [(.int (0 : Int32))]))
          refine own_istoreN X17 hx hby d_87_3__20  (Ls' := #[.val (.ref a), .val (.ref ov), .val (.int (2 : Int32)), .val (.int (0 : Int32)), .val (.int (0 : Int32))]) rfl (pc' := 21) rfl ?_
          refine own_iloadN X17 hx hby d_87_3__21 rfl (pc' := 22) rfl ?_
          refine own_ifN X17 hx hby d_87_3__22 ((if0 _ _).trans (flt (by decide)).1) (pc' := 25) rfl ?_
          refine own_aloadN X17 hx hby d_87_3__25 rfl rfl (pc' := 26) rfl ?_
          refine own_getF X17 hx hby hZ hown (host := "") (Or.inl (own_w hw 107 rfl)) Via.refl e17 F1 d_87_3__26 (pc' := 29) rfl ?_
          intro T18 X18 e18
          refine own_iloadN X18 hx hby d_87_3__29 rfl (pc' := 30) rfl ?_
          refine own_iconst X18 hx hby d_87_3__30 (v := (1 : Int32)) rfl (pc' := 31) rfl ?_
          refine own_iadd X18 hx hby d_87_3__31 (pc' := 32) rfl ?_
          show GoP p e below Φ (T18.setTop (mkF m 32 #[.val (.ref a), .val (.ref ov), .val (.int (2 : Int32)), .val (.int (0 : Int32)), .val (.int (0 : Int32))] [(.int (1 : Int32)), (.ref hv)]))
          refine own_iaload X18 hx hby hZ e18 V (by decide) (v := (.int z0)) rfl d_87_3__32 (pc' := 33) rfl ?_
          refine own_aloadN X18 hx hby d_87_3__33 rfl rfl (pc' := 34) rfl ?_
          refine own_iload X18 hx hby d_87_3__34 rfl (pc' := 36) rfl ?_
          refine own_iconst X18 hx hby d_87_3__36 (v := (1 : Int32)) rfl (pc' := 37) rfl ?_
          refine own_iadd X18 hx hby d_87_3__37 (pc' := 38) rfl ?_
          show GoP p e below Φ (T18.setTop (mkF m 38 #[.val (.ref a), .val (.ref ov), .val (.int (2 : Int32)), .val (.int (0 : Int32)), .val (.int (0 : Int32))] [(.int (1 : Int32)), (.ref ov), (.int z0)]))
          refine own_iaload X18 hx hby hZ e18 W (by decide) (v := (.int x0)) rfl d_87_3__38 (pc' := 39) rfl ?_
          by_cases hc39_19 : z0 < x0
          · refine own_icmpN X18 hx hby d_87_3__39 (tlt hc39_19).2.1 (pc' := 42) rfl ?_
            refine own_iconst X18 hx hby d_87_3__42 (v := (0 : Int32)) rfl (pc' := 43) rfl ?_
            exact own_retN X18 hx hby fin hret (by simp) rfl d_87_3__43 (by decide) (by decide) ⟨by rw [(own_cva hc39_19)], rfl, e18⟩
          · refine own_icmpY X18 hx hby d_87_3__39 (flt hc39_19).2.1 (by decide) (pc' := 44) (by decide) ?_
            refine own_iinc X18 hx hby d_87_3__44 rfl (v := (2 : Int32)) rfl (Ls' := #[.val (.ref a), .val (.ref ov), .val (.int (2 : Int32)), .val (.int (0 : Int32)), .val (.int (2 : Int32))]) rfl (pc' := 47) rfl ?_
            refine own_goto X18 hx hby d_87_3__47 (by decide) (pc' := 5) (by decide) ?_
            refine own_iload X18 hx hby d_87_3__5 rfl (pc' := 7) rfl ?_
            refine own_iloadN X18 hx hby d_87_3__7 rfl (pc' := 8) rfl ?_
            refine own_icmpY X18 hx hby d_87_3__8 (flt (by decide)).2.1 (by decide) (pc' := 50) (by decide) ?_
            refine own_iconst X18 hx hby d_87_3__50 (v := (1 : Int32)) rfl (pc' := 51) rfl ?_
            exact own_retN X18 hx hby fin hret (by simp) rfl d_87_3__51 (by decide) (by decide) ⟨by rw [(own_cvc hc39_19 (own_l2 nz1 gx1))], rfl, e18⟩
      · by_cases gx1 : (0 : Int32) < x1
        · have ez : own_pr z0 z1 = [(.int (0 : Int32)), (.int z0)] := by rw [own_pr, if_pos gz0, if_neg gz1]; rfl
          have lz : own_pl z0 z1 = (2 : Int32) := by rw [own_pl, if_pos gz0, if_neg gz1]; decide
          have ex : own_pr x0 x1 = [(.int (1 : Int32)), (.int x1)] := by rw [own_pr, if_neg gx0, if_pos gx1]; rfl
          have lx : own_pl x0 x1 = (2 : Int32) := by rw [own_pl, if_neg gx0, if_pos gx1]; decide
          rw [ez] at V
          rw [lz] at F2
          rw [ex] at W
          rw [lx]
          show GoP p e below Φ (T.setTop (mkF m 0 #[.val (.ref a), .val (.ref ov), .val (.int (2 : Int32)), .unset, .unset] []))
          refine own_iconst X hx hby d_87_3__0 (v := (0 : Int32)) rfl (pc' := 1) rfl ?_
          refine own_istoreN X hx hby d_87_3__1  (Ls' := #[.val (.ref a), .val (.ref ov), .val (.int (2 : Int32)), .val (.int (0 : Int32)), .unset]) rfl (pc' := 2) rfl ?_
          refine own_iconst X hx hby d_87_3__2 (v := (0 : Int32)) rfl (pc' := 3) rfl ?_
          refine own_istore X hx hby d_87_3__3  (Ls' := #[.val (.ref a), .val (.ref ov), .val (.int (2 : Int32)), .val (.int (0 : Int32)), .val (.int (0 : Int32))]) rfl (pc' := 5) rfl ?_
          refine own_iload X hx hby d_87_3__5 rfl (pc' := 7) rfl ?_
          refine own_iloadN X hx hby d_87_3__7 rfl (pc' := 8) rfl ?_
          refine own_icmpN X hx hby d_87_3__8 (tlt (by decide)).2.1 (pc' := 11) rfl ?_
          refine own_aloadN X hx hby d_87_3__11 rfl rfl (pc' := 12) rfl ?_
          refine own_aloadN X hx hby d_87_3__12 rfl rfl (pc' := 13) rfl ?_
          refine own_iload X hx hby d_87_3__13 rfl (pc' := 15) rfl ?_
          refine own_iaload X hx hby hZ eT W (by decide) (v := (.int (1 : Int32))) rfl d_87_3__15 (pc' := 16) rfl ?_
          refine own_iloadN X hx hby d_87_3__16 rfl (pc' := 17) rfl ?_
          refine own_callP X hx hby hZ (by exact hml) hown (own_w hw 212 rfl) (own_w hw 214 rfl) (own_selfsel (z := ({ cls := "com/example/tracemass/tracemass/qstates/SilentPath$Pairs", name := "read", desc := "(Lcom/example/tracemass/tracemass/nets/Marking;[ZI)V" } : Jvm.MethodName)) (own_w hw 213 rfl) (own_w hw 214 rfl) rfl (own_w hw 168 rfl) (by decide)) (own_w hw 213 rfl) (own_w hw 102 rfl) (own_w hw 215 rfl) (by decide) eT 0 (by decide) (by decide) (by decide) (by decide) (argsL := [(.int (1 : Int32)), (.int (0 : Int32))]) (rest := []) (lenOf pd__II_I rfl) rfl (Nat.le_of_eq rfl) E (rmIx1_1 l Z a0 hw a hv z0 z1 h0 F1 F2 V) d_87_3__17 (pc' := 20) rfl ?_
          intro v20 T20 L20 X20 hQ20
          obtain ⟨rfl, rfl, e20⟩ := hQ20
          rw [List.append_nil] at X20
          replace e20 : T20.heap = h0 := e20
          show GoP p e below Φ (T20.setTop (mkF m 20 #[.val (.ref a), .val (.ref ov), .val (.int (2 : Int32)), .val (.int (0 : Int32)), .val (.int (0 : Int32))] [(.int (-1 : Int32))]))
          refine own_istoreN X20 hx hby d_87_3__20  (Ls' := #[.val (.ref a), .val (.ref ov), .val (.int (2 : Int32)), .val (.int (-1 : Int32)), .val (.int (0 : Int32))]) rfl (pc' := 21) rfl ?_
          refine own_iloadN X20 hx hby d_87_3__21 rfl (pc' := 22) rfl ?_
          refine own_ifY X20 hx hby d_87_3__22 ((if0 _ _).trans (tlt (by decide)).1) (by decide) (pc' := 42) (by decide) ?_
          refine own_iconst X20 hx hby d_87_3__42 (v := (0 : Int32)) rfl (pc' := 43) rfl ?_
          exact own_retN X20 hx hby fin hret (by simp) rfl d_87_3__43 (by decide) (by decide) ⟨by rw [(own_cvb (own_l1 gz1 gx1))], rfl, e20⟩
        · have ez : own_pr z0 z1 = [(.int (0 : Int32)), (.int z0)] := by rw [own_pr, if_pos gz0, if_neg gz1]; rfl
          have lz : own_pl z0 z1 = (2 : Int32) := by rw [own_pl, if_pos gz0, if_neg gz1]; decide
          have ex : own_pr x0 x1 = [] := by rw [own_pr, if_neg gx0, if_neg gx1]; rfl
          have lx : own_pl x0 x1 = (0 : Int32) := by rw [own_pl, if_neg gx0, if_neg gx1]; decide
          rw [ez] at V
          rw [lz] at F2
          rw [ex] at W
          rw [lx]
          show GoP p e below Φ (T.setTop (mkF m 0 #[.val (.ref a), .val (.ref ov), .val (.int (0 : Int32)), .unset, .unset] []))
          refine own_iconst X hx hby d_87_3__0 (v := (0 : Int32)) rfl (pc' := 1) rfl ?_
          refine own_istoreN X hx hby d_87_3__1  (Ls' := #[.val (.ref a), .val (.ref ov), .val (.int (0 : Int32)), .val (.int (0 : Int32)), .unset]) rfl (pc' := 2) rfl ?_
          refine own_iconst X hx hby d_87_3__2 (v := (0 : Int32)) rfl (pc' := 3) rfl ?_
          refine own_istore X hx hby d_87_3__3  (Ls' := #[.val (.ref a), .val (.ref ov), .val (.int (0 : Int32)), .val (.int (0 : Int32)), .val (.int (0 : Int32))]) rfl (pc' := 5) rfl ?_
          refine own_iload X hx hby d_87_3__5 rfl (pc' := 7) rfl ?_
          refine own_iloadN X hx hby d_87_3__7 rfl (pc' := 8) rfl ?_
          refine own_icmpY X hx hby d_87_3__8 (flt (by decide)).2.1 (by decide) (pc' := 50) (by decide) ?_
          refine own_iconst X hx hby d_87_3__50 (v := (1 : Int32)) rfl (pc' := 51) rfl ?_
          exact own_retN X hx hby fin hret (by simp) rfl d_87_3__51 (by decide) (by decide) ⟨by rw [(own_cvc (own_l2 nz0 gx0) (own_l2 nz1 gx1))], rfl, eT⟩
  · by_cases gz1 : (0 : Int32) < z1
    · by_cases gx0 : (0 : Int32) < x0
      · by_cases gx1 : (0 : Int32) < x1
        · have ez : own_pr z0 z1 = [(.int (1 : Int32)), (.int z1)] := by rw [own_pr, if_neg gz0, if_pos gz1]; rfl
          have lz : own_pl z0 z1 = (2 : Int32) := by rw [own_pl, if_neg gz0, if_pos gz1]; decide
          have ex : own_pr x0 x1 = [(.int (0 : Int32)), (.int x0), (.int (1 : Int32)), (.int x1)] := by rw [own_pr, if_pos gx0, if_pos gx1]; rfl
          have lx : own_pl x0 x1 = (4 : Int32) := by rw [own_pl, if_pos gx0, if_pos gx1]; decide
          rw [ez] at V
          rw [lz] at F2
          rw [ex] at W
          rw [lx]
          show GoP p e below Φ (T.setTop (mkF m 0 #[.val (.ref a), .val (.ref ov), .val (.int (4 : Int32)), .unset, .unset] []))
          refine own_iconst X hx hby d_87_3__0 (v := (0 : Int32)) rfl (pc' := 1) rfl ?_
          refine own_istoreN X hx hby d_87_3__1  (Ls' := #[.val (.ref a), .val (.ref ov), .val (.int (4 : Int32)), .val (.int (0 : Int32)), .unset]) rfl (pc' := 2) rfl ?_
          refine own_iconst X hx hby d_87_3__2 (v := (0 : Int32)) rfl (pc' := 3) rfl ?_
          refine own_istore X hx hby d_87_3__3  (Ls' := #[.val (.ref a), .val (.ref ov), .val (.int (4 : Int32)), .val (.int (0 : Int32)), .val (.int (0 : Int32))]) rfl (pc' := 5) rfl ?_
          refine own_iload X hx hby d_87_3__5 rfl (pc' := 7) rfl ?_
          refine own_iloadN X hx hby d_87_3__7 rfl (pc' := 8) rfl ?_
          refine own_icmpN X hx hby d_87_3__8 (tlt (by decide)).2.1 (pc' := 11) rfl ?_
          refine own_aloadN X hx hby d_87_3__11 rfl rfl (pc' := 12) rfl ?_
          refine own_aloadN X hx hby d_87_3__12 rfl rfl (pc' := 13) rfl ?_
          refine own_iload X hx hby d_87_3__13 rfl (pc' := 15) rfl ?_
          refine own_iaload X hx hby hZ eT W (by decide) (v := (.int (0 : Int32))) rfl d_87_3__15 (pc' := 16) rfl ?_
          refine own_iloadN X hx hby d_87_3__16 rfl (pc' := 17) rfl ?_
          refine own_callP X hx hby hZ (by exact hml) hown (own_w hw 212 rfl) (own_w hw 214 rfl) (own_selfsel (z := ({ cls := "com/example/tracemass/tracemass/qstates/SilentPath$Pairs", name := "read", desc := "(Lcom/example/tracemass/tracemass/nets/Marking;[ZI)V" } : Jvm.MethodName)) (own_w hw 213 rfl) (own_w hw 214 rfl) rfl (own_w hw 168 rfl) (by decide)) (own_w hw 213 rfl) (own_w hw 102 rfl) (own_w hw 215 rfl) (by decide) eT 0 (by decide) (by decide) (by decide) (by decide) (argsL := [(.int (0 : Int32)), (.int (0 : Int32))]) (rest := []) (lenOf pd__II_I rfl) rfl (Nat.le_of_eq rfl) E (rmIx2_0 l Z a0 hw a hv z0 z1 h0 F1 F2 V) d_87_3__17 (pc' := 20) rfl ?_
          intro v21 T21 L21 X21 hQ21
          obtain ⟨rfl, rfl, e21⟩ := hQ21
          rw [List.append_nil] at X21
          replace e21 : T21.heap = h0 := e21
          show GoP p e below Φ (T21.setTop (mkF m 20 #[.val (.ref a), .val (.ref ov), .val (.int (4 : Int32)), .val (.int (0 : Int32)), .val (.int (0 : Int32))] [(.int (-1 : Int32))]))
          refine own_istoreN X21 hx hby d_87_3__20  (Ls' := #[.val (.ref a), .val (.ref ov), .val (.int (4 : Int32)), .val (.int (-1 : Int32)), .val (.int (0 : Int32))]) rfl (pc' := 21) rfl ?_
          refine own_iloadN X21 hx hby d_87_3__21 rfl (pc' := 22) rfl ?_
          refine own_ifY X21 hx hby d_87_3__22 ((if0 _ _).trans (tlt (by decide)).1) (by decide) (pc' := 42) (by decide) ?_
          refine own_iconst X21 hx hby d_87_3__42 (v := (0 : Int32)) rfl (pc' := 43) rfl ?_
          exact own_retN X21 hx hby fin hret (by simp) rfl d_87_3__43 (by decide) (by decide) ⟨by rw [(own_cva (own_l1 gz0 gx0))], rfl, e21⟩
        · have ez : own_pr z0 z1 = [(.int (1 : Int32)), (.int z1)] := by rw [own_pr, if_neg gz0, if_pos gz1]; rfl
          have lz : own_pl z0 z1 = (2 : Int32) := by rw [own_pl, if_neg gz0, if_pos gz1]; decide
          have ex : own_pr x0 x1 = [(.int (0 : Int32)), (.int x0)] := by rw [own_pr, if_pos gx0, if_neg gx1]; rfl
          have lx : own_pl x0 x1 = (2 : Int32) := by rw [own_pl, if_pos gx0, if_neg gx1]; decide
          rw [ez] at V
          rw [lz] at F2
          rw [ex] at W
          rw [lx]
          show GoP p e below Φ (T.setTop (mkF m 0 #[.val (.ref a), .val (.ref ov), .val (.int (2 : Int32)), .unset, .unset] []))
          refine own_iconst X hx hby d_87_3__0 (v := (0 : Int32)) rfl (pc' := 1) rfl ?_
          refine own_istoreN X hx hby d_87_3__1  (Ls' := #[.val (.ref a), .val (.ref ov), .val (.int (2 : Int32)), .val (.int (0 : Int32)), .unset]) rfl (pc' := 2) rfl ?_
          refine own_iconst X hx hby d_87_3__2 (v := (0 : Int32)) rfl (pc' := 3) rfl ?_
          refine own_istore X hx hby d_87_3__3  (Ls' := #[.val (.ref a), .val (.ref ov), .val (.int (2 : Int32)), .val (.int (0 : Int32)), .val (.int (0 : Int32))]) rfl (pc' := 5) rfl ?_
          refine own_iload X hx hby d_87_3__5 rfl (pc' := 7) rfl ?_
          refine own_iloadN X hx hby d_87_3__7 rfl (pc' := 8) rfl ?_
          refine own_icmpN X hx hby d_87_3__8 (tlt (by decide)).2.1 (pc' := 11) rfl ?_
          refine own_aloadN X hx hby d_87_3__11 rfl rfl (pc' := 12) rfl ?_
          refine own_aloadN X hx hby d_87_3__12 rfl rfl (pc' := 13) rfl ?_
          refine own_iload X hx hby d_87_3__13 rfl (pc' := 15) rfl ?_
          refine own_iaload X hx hby hZ eT W (by decide) (v := (.int (0 : Int32))) rfl d_87_3__15 (pc' := 16) rfl ?_
          refine own_iloadN X hx hby d_87_3__16 rfl (pc' := 17) rfl ?_
          refine own_callP X hx hby hZ (by exact hml) hown (own_w hw 212 rfl) (own_w hw 214 rfl) (own_selfsel (z := ({ cls := "com/example/tracemass/tracemass/qstates/SilentPath$Pairs", name := "read", desc := "(Lcom/example/tracemass/tracemass/nets/Marking;[ZI)V" } : Jvm.MethodName)) (own_w hw 213 rfl) (own_w hw 214 rfl) rfl (own_w hw 168 rfl) (by decide)) (own_w hw 213 rfl) (own_w hw 102 rfl) (own_w hw 215 rfl) (by decide) eT 0 (by decide) (by decide) (by decide) (by decide) (argsL := [(.int (0 : Int32)), (.int (0 : Int32))]) (rest := []) (lenOf pd__II_I rfl) rfl (Nat.le_of_eq rfl) E (rmIx2_0 l Z a0 hw a hv z0 z1 h0 F1 F2 V) d_87_3__17 (pc' := 20) rfl ?_
          intro v22 T22 L22 X22 hQ22
          obtain ⟨rfl, rfl, e22⟩ := hQ22
          rw [List.append_nil] at X22
          replace e22 : T22.heap = h0 := e22
          show GoP p e below Φ (T22.setTop (mkF m 20 #[.val (.ref a), .val (.ref ov), .val (.int (2 : Int32)), .val (.int (0 : Int32)), .val (.int (0 : Int32))] [(.int (-1 : Int32))]))
          refine own_istoreN X22 hx hby d_87_3__20  (Ls' := #[.val (.ref a), .val (.ref ov), .val (.int (2 : Int32)), .val (.int (-1 : Int32)), .val (.int (0 : Int32))]) rfl (pc' := 21) rfl ?_
          refine own_iloadN X22 hx hby d_87_3__21 rfl (pc' := 22) rfl ?_
          refine own_ifY X22 hx hby d_87_3__22 ((if0 _ _).trans (tlt (by decide)).1) (by decide) (pc' := 42) (by decide) ?_
          refine own_iconst X22 hx hby d_87_3__42 (v := (0 : Int32)) rfl (pc' := 43) rfl ?_
          exact own_retN X22 hx hby fin hret (by simp) rfl d_87_3__43 (by decide) (by decide) ⟨by rw [(own_cva (own_l1 gz0 gx0))], rfl, e22⟩
      · by_cases gx1 : (0 : Int32) < x1
        · have ez : own_pr z0 z1 = [(.int (1 : Int32)), (.int z1)] := by rw [own_pr, if_neg gz0, if_pos gz1]; rfl
          have lz : own_pl z0 z1 = (2 : Int32) := by rw [own_pl, if_neg gz0, if_pos gz1]; decide
          have ex : own_pr x0 x1 = [(.int (1 : Int32)), (.int x1)] := by rw [own_pr, if_neg gx0, if_pos gx1]; rfl
          have lx : own_pl x0 x1 = (2 : Int32) := by rw [own_pl, if_neg gx0, if_pos gx1]; decide
          rw [ez] at V
          rw [lz] at F2
          rw [ex] at W
          rw [lx]
          show GoP p e below Φ (T.setTop (mkF m 0 #[.val (.ref a), .val (.ref ov), .val (.int (2 : Int32)), .unset, .unset] []))
          refine own_iconst X hx hby d_87_3__0 (v := (0 : Int32)) rfl (pc' := 1) rfl ?_
          refine own_istoreN X hx hby d_87_3__1  (Ls' := #[.val (.ref a), .val (.ref ov), .val (.int (2 : Int32)), .val (.int (0 : Int32)), .unset]) rfl (pc' := 2) rfl ?_
          refine own_iconst X hx hby d_87_3__2 (v := (0 : Int32)) rfl (pc' := 3) rfl ?_
          refine own_istore X hx hby d_87_3__3  (Ls' := #[.val (.ref a), .val (.ref ov), .val (.int (2 : Int32)), .val (.int (0 : Int32)), .val (.int (0 : Int32))]) rfl (pc' := 5) rfl ?_
          refine own_iload X hx hby d_87_3__5 rfl (pc' := 7) rfl ?_
          refine own_iloadN X hx hby d_87_3__7 rfl (pc' := 8) rfl ?_
          refine own_icmpN X hx hby d_87_3__8 (tlt (by decide)).2.1 (pc' := 11) rfl ?_
          refine own_aloadN X hx hby d_87_3__11 rfl rfl (pc' := 12) rfl ?_
          refine own_aloadN X hx hby d_87_3__12 rfl rfl (pc' := 13) rfl ?_
          refine own_iload X hx hby d_87_3__13 rfl (pc' := 15) rfl ?_
          refine own_iaload X hx hby hZ eT W (by decide) (v := (.int (1 : Int32))) rfl d_87_3__15 (pc' := 16) rfl ?_
          refine own_iloadN X hx hby d_87_3__16 rfl (pc' := 17) rfl ?_
          refine own_callP X hx hby hZ (by exact hml) hown (own_w hw 212 rfl) (own_w hw 214 rfl) (own_selfsel (z := ({ cls := "com/example/tracemass/tracemass/qstates/SilentPath$Pairs", name := "read", desc := "(Lcom/example/tracemass/tracemass/nets/Marking;[ZI)V" } : Jvm.MethodName)) (own_w hw 213 rfl) (own_w hw 214 rfl) rfl (own_w hw 168 rfl) (by decide)) (own_w hw 213 rfl) (own_w hw 102 rfl) (own_w hw 215 rfl) (by decide) eT 0 (by decide) (by decide) (by decide) (by decide) (argsL := [(.int (1 : Int32)), (.int (0 : Int32))]) (rest := []) (lenOf pd__II_I rfl) rfl (Nat.le_of_eq rfl) E (rmIx2_1 l Z a0 hw a hv z0 z1 h0 F1 F2 V) d_87_3__17 (pc' := 20) rfl ?_
          intro v23 T23 L23 X23 hQ23
          obtain ⟨rfl, rfl, e23⟩ := hQ23
          rw [List.append_nil] at X23
          replace e23 : T23.heap = h0 := e23
          show GoP p e below Φ (T23.setTop (mkF m 20 #[.val (.ref a), .val (.ref ov), .val (.int (2 : Int32)), .val (.int (0 : Int32)), .val (.int (0 : Int32))] [(.int (0 : Int32))]))
          refine own_istoreN X23 hx hby d_87_3__20  (Ls' := #[.val (.ref a), .val (.ref ov), .val (.int (2 : Int32)), .val (.int (0 : Int32)), .val (.int (0 : Int32))]) rfl (pc' := 21) rfl ?_
          refine own_iloadN X23 hx hby d_87_3__21 rfl (pc' := 22) rfl ?_
          refine own_ifN X23 hx hby d_87_3__22 ((if0 _ _).trans (flt (by decide)).1) (pc' := 25) rfl ?_
          refine own_aloadN X23 hx hby d_87_3__25 rfl rfl (pc' := 26) rfl ?_
          refine own_getF X23 hx hby hZ hown (host := "") (Or.inl (own_w hw 107 rfl)) Via.refl e23 F1 d_87_3__26 (pc' := 29) rfl ?_
          intro T24 X24 e24
          refine own_iloadN X24 hx hby d_87_3__29 rfl (pc' := 30) rfl ?_
          refine own_iconst X24 hx hby d_87_3__30 (v := (1 : Int32)) rfl (pc' := 31) rfl ?_
          refine own_iadd X24 hx hby d_87_3__31 (pc' := 32) rfl ?_
          show GoP p e below Φ (T24.setTop (mkF m 32 #[.val (.ref a), .val (.ref ov), .val (.int (2 : Int32)), .val (.int (0 : Int32)), .val (.int (0 : Int32))] [(.int (1 : Int32)), (.ref hv)]))
          refine own_iaload X24 hx hby hZ e24 V (by decide) (v := (.int z1)) rfl d_87_3__32 (pc' := 33) rfl ?_
          refine own_aloadN X24 hx hby d_87_3__33 rfl rfl (pc' := 34) rfl ?_
          refine own_iload X24 hx hby d_87_3__34 rfl (pc' := 36) rfl ?_
          refine own_iconst X24 hx hby d_87_3__36 (v := (1 : Int32)) rfl (pc' := 37) rfl ?_
          refine own_iadd X24 hx hby d_87_3__37 (pc' := 38) rfl ?_
          show GoP p e below Φ (T24.setTop (mkF m 38 #[.val (.ref a), .val (.ref ov), .val (.int (2 : Int32)), .val (.int (0 : Int32)), .val (.int (0 : Int32))] [(.int (1 : Int32)), (.ref ov), (.int z1)]))
          refine own_iaload X24 hx hby hZ e24 W (by decide) (v := (.int x1)) rfl d_87_3__38 (pc' := 39) rfl ?_
          by_cases hc39_25 : z1 < x1
          · refine own_icmpN X24 hx hby d_87_3__39 (tlt hc39_25).2.1 (pc' := 42) rfl ?_
            refine own_iconst X24 hx hby d_87_3__42 (v := (0 : Int32)) rfl (pc' := 43) rfl ?_
            exact own_retN X24 hx hby fin hret (by simp) rfl d_87_3__43 (by decide) (by decide) ⟨by rw [(own_cvb hc39_25)], rfl, e24⟩
          · refine own_icmpY X24 hx hby d_87_3__39 (flt hc39_25).2.1 (by decide) (pc' := 44) (by decide) ?_
            refine own_iinc X24 hx hby d_87_3__44 rfl (v := (2 : Int32)) rfl (Ls' := #[.val (.ref a), .val (.ref ov), .val (.int (2 : Int32)), .val (.int (0 : Int32)), .val (.int (2 : Int32))]) rfl (pc' := 47) rfl ?_
            refine own_goto X24 hx hby d_87_3__47 (by decide) (pc' := 5) (by decide) ?_
            refine own_iload X24 hx hby d_87_3__5 rfl (pc' := 7) rfl ?_
            refine own_iloadN X24 hx hby d_87_3__7 rfl (pc' := 8) rfl ?_
            refine own_icmpY X24 hx hby d_87_3__8 (flt (by decide)).2.1 (by decide) (pc' := 50) (by decide) ?_
            refine own_iconst X24 hx hby d_87_3__50 (v := (1 : Int32)) rfl (pc' := 51) rfl ?_
            exact own_retN X24 hx hby fin hret (by simp) rfl d_87_3__51 (by decide) (by decide) ⟨by rw [(own_cvc (own_l2 nz0 gx0) hc39_25)], rfl, e24⟩
        · have ez : own_pr z0 z1 = [(.int (1 : Int32)), (.int z1)] := by rw [own_pr, if_neg gz0, if_pos gz1]; rfl
          have lz : own_pl z0 z1 = (2 : Int32) := by rw [own_pl, if_neg gz0, if_pos gz1]; decide
          have ex : own_pr x0 x1 = [] := by rw [own_pr, if_neg gx0, if_neg gx1]; rfl
          have lx : own_pl x0 x1 = (0 : Int32) := by rw [own_pl, if_neg gx0, if_neg gx1]; decide
          rw [ez] at V
          rw [lz] at F2
          rw [ex] at W
          rw [lx]
          show GoP p e below Φ (T.setTop (mkF m 0 #[.val (.ref a), .val (.ref ov), .val (.int (0 : Int32)), .unset, .unset] []))
          refine own_iconst X hx hby d_87_3__0 (v := (0 : Int32)) rfl (pc' := 1) rfl ?_
          refine own_istoreN X hx hby d_87_3__1  (Ls' := #[.val (.ref a), .val (.ref ov), .val (.int (0 : Int32)), .val (.int (0 : Int32)), .unset]) rfl (pc' := 2) rfl ?_
          refine own_iconst X hx hby d_87_3__2 (v := (0 : Int32)) rfl (pc' := 3) rfl ?_
          refine own_istore X hx hby d_87_3__3  (Ls' := #[.val (.ref a), .val (.ref ov), .val (.int (0 : Int32)), .val (.int (0 : Int32)), .val (.int (0 : Int32))]) rfl (pc' := 5) rfl ?_
          refine own_iload X hx hby d_87_3__5 rfl (pc' := 7) rfl ?_
          refine own_iloadN X hx hby d_87_3__7 rfl (pc' := 8) rfl ?_
          refine own_icmpY X hx hby d_87_3__8 (flt (by decide)).2.1 (by decide) (pc' := 50) (by decide) ?_
          refine own_iconst X hx hby d_87_3__50 (v := (1 : Int32)) rfl (pc' := 51) rfl ?_
          exact own_retN X hx hby fin hret (by simp) rfl d_87_3__51 (by decide) (by decide) ⟨by rw [(own_cvc (own_l2 nz0 gx0) (own_l2 nz1 gx1))], rfl, eT⟩
    · by_cases gx0 : (0 : Int32) < x0
      · by_cases gx1 : (0 : Int32) < x1
        · have ez : own_pr z0 z1 = [] := by rw [own_pr, if_neg gz0, if_neg gz1]; rfl
          have lz : own_pl z0 z1 = (0 : Int32) := by rw [own_pl, if_neg gz0, if_neg gz1]; decide
          have ex : own_pr x0 x1 = [(.int (0 : Int32)), (.int x0), (.int (1 : Int32)), (.int x1)] := by rw [own_pr, if_pos gx0, if_pos gx1]; rfl
          have lx : own_pl x0 x1 = (4 : Int32) := by rw [own_pl, if_pos gx0, if_pos gx1]; decide
          rw [ez] at V
          rw [lz] at F2
          rw [ex] at W
          rw [lx]
          show GoP p e below Φ (T.setTop (mkF m 0 #[.val (.ref a), .val (.ref ov), .val (.int (4 : Int32)), .unset, .unset] []))
          refine own_iconst X hx hby d_87_3__0 (v := (0 : Int32)) rfl (pc' := 1) rfl ?_
          refine own_istoreN X hx hby d_87_3__1  (Ls' := #[.val (.ref a), .val (.ref ov), .val (.int (4 : Int32)), .val (.int (0 : Int32)), .unset]) rfl (pc' := 2) rfl ?_
          refine own_iconst X hx hby d_87_3__2 (v := (0 : Int32)) rfl (pc' := 3) rfl ?_
          refine own_istore X hx hby d_87_3__3  (Ls' := #[.val (.ref a), .val (.ref ov), .val (.int (4 : Int32)), .val (.int (0 : Int32)), .val (.int (0 : Int32))]) rfl (pc' := 5) rfl ?_
          refine own_iload X hx hby d_87_3__5 rfl (pc' := 7) rfl ?_
          refine own_iloadN X hx hby d_87_3__7 rfl (pc' := 8) rfl ?_
          refine own_icmpN X hx hby d_87_3__8 (tlt (by decide)).2.1 (pc' := 11) rfl ?_
          refine own_aloadN X hx hby d_87_3__11 rfl rfl (pc' := 12) rfl ?_
          refine own_aloadN X hx hby d_87_3__12 rfl rfl (pc' := 13) rfl ?_
          refine own_iload X hx hby d_87_3__13 rfl (pc' := 15) rfl ?_
          refine own_iaload X hx hby hZ eT W (by decide) (v := (.int (0 : Int32))) rfl d_87_3__15 (pc' := 16) rfl ?_
          refine own_iloadN X hx hby d_87_3__16 rfl (pc' := 17) rfl ?_
          refine own_callP X hx hby hZ (by exact hml) hown (own_w hw 212 rfl) (own_w hw 214 rfl) (own_selfsel (z := ({ cls := "com/example/tracemass/tracemass/qstates/SilentPath$Pairs", name := "read", desc := "(Lcom/example/tracemass/tracemass/nets/Marking;[ZI)V" } : Jvm.MethodName)) (own_w hw 213 rfl) (own_w hw 214 rfl) rfl (own_w hw 168 rfl) (by decide)) (own_w hw 213 rfl) (own_w hw 102 rfl) (own_w hw 215 rfl) (by decide) eT 0 (by decide) (by decide) (by decide) (by decide) (argsL := [(.int (0 : Int32)), (.int (0 : Int32))]) (rest := []) (lenOf pd__II_I rfl) rfl (Nat.le_of_eq rfl) E (rmIx0_0 l Z a0 hw a hv z0 z1 h0 F1 F2 V) d_87_3__17 (pc' := 20) rfl ?_
          intro v26 T26 L26 X26 hQ26
          obtain ⟨rfl, rfl, e26⟩ := hQ26
          rw [List.append_nil] at X26
          replace e26 : T26.heap = h0 := e26
          show GoP p e below Φ (T26.setTop (mkF m 20 #[.val (.ref a), .val (.ref ov), .val (.int (4 : Int32)), .val (.int (0 : Int32)), .val (.int (0 : Int32))] [(.int (-1 : Int32))]))
          refine own_istoreN X26 hx hby d_87_3__20  (Ls' := #[.val (.ref a), .val (.ref ov), .val (.int (4 : Int32)), .val (.int (-1 : Int32)), .val (.int (0 : Int32))]) rfl (pc' := 21) rfl ?_
          refine own_iloadN X26 hx hby d_87_3__21 rfl (pc' := 22) rfl ?_
          refine own_ifY X26 hx hby d_87_3__22 ((if0 _ _).trans (tlt (by decide)).1) (by decide) (pc' := 42) (by decide) ?_
          refine own_iconst X26 hx hby d_87_3__42 (v := (0 : Int32)) rfl (pc' := 43) rfl ?_
          exact own_retN X26 hx hby fin hret (by simp) rfl d_87_3__43 (by decide) (by decide) ⟨by rw [(own_cva (own_l1 gz0 gx0))], rfl, e26⟩
        · have ez : own_pr z0 z1 = [] := by rw [own_pr, if_neg gz0, if_neg gz1]; rfl
          have lz : own_pl z0 z1 = (0 : Int32) := by rw [own_pl, if_neg gz0, if_neg gz1]; decide
          have ex : own_pr x0 x1 = [(.int (0 : Int32)), (.int x0)] := by rw [own_pr, if_pos gx0, if_neg gx1]; rfl
          have lx : own_pl x0 x1 = (2 : Int32) := by rw [own_pl, if_pos gx0, if_neg gx1]; decide
          rw [ez] at V
          rw [lz] at F2
          rw [ex] at W
          rw [lx]
          show GoP p e below Φ (T.setTop (mkF m 0 #[.val (.ref a), .val (.ref ov), .val (.int (2 : Int32)), .unset, .unset] []))
          refine own_iconst X hx hby d_87_3__0 (v := (0 : Int32)) rfl (pc' := 1) rfl ?_
          refine own_istoreN X hx hby d_87_3__1  (Ls' := #[.val (.ref a), .val (.ref ov), .val (.int (2 : Int32)), .val (.int (0 : Int32)), .unset]) rfl (pc' := 2) rfl ?_
          refine own_iconst X hx hby d_87_3__2 (v := (0 : Int32)) rfl (pc' := 3) rfl ?_
          refine own_istore X hx hby d_87_3__3  (Ls' := #[.val (.ref a), .val (.ref ov), .val (.int (2 : Int32)), .val (.int (0 : Int32)), .val (.int (0 : Int32))]) rfl (pc' := 5) rfl ?_
          refine own_iload X hx hby d_87_3__5 rfl (pc' := 7) rfl ?_
          refine own_iloadN X hx hby d_87_3__7 rfl (pc' := 8) rfl ?_
          refine own_icmpN X hx hby d_87_3__8 (tlt (by decide)).2.1 (pc' := 11) rfl ?_
          refine own_aloadN X hx hby d_87_3__11 rfl rfl (pc' := 12) rfl ?_
          refine own_aloadN X hx hby d_87_3__12 rfl rfl (pc' := 13) rfl ?_
          refine own_iload X hx hby d_87_3__13 rfl (pc' := 15) rfl ?_
          refine own_iaload X hx hby hZ eT W (by decide) (v := (.int (0 : Int32))) rfl d_87_3__15 (pc' := 16) rfl ?_
          refine own_iloadN X hx hby d_87_3__16 rfl (pc' := 17) rfl ?_
          refine own_callP X hx hby hZ (by exact hml) hown (own_w hw 212 rfl) (own_w hw 214 rfl) (own_selfsel (z := ({ cls := "com/example/tracemass/tracemass/qstates/SilentPath$Pairs", name := "read", desc := "(Lcom/example/tracemass/tracemass/nets/Marking;[ZI)V" } : Jvm.MethodName)) (own_w hw 213 rfl) (own_w hw 214 rfl) rfl (own_w hw 168 rfl) (by decide)) (own_w hw 213 rfl) (own_w hw 102 rfl) (own_w hw 215 rfl) (by decide) eT 0 (by decide) (by decide) (by decide) (by decide) (argsL := [(.int (0 : Int32)), (.int (0 : Int32))]) (rest := []) (lenOf pd__II_I rfl) rfl (Nat.le_of_eq rfl) E (rmIx0_0 l Z a0 hw a hv z0 z1 h0 F1 F2 V) d_87_3__17 (pc' := 20) rfl ?_
          intro v27 T27 L27 X27 hQ27
          obtain ⟨rfl, rfl, e27⟩ := hQ27
          rw [List.append_nil] at X27
          replace e27 : T27.heap = h0 := e27
          show GoP p e below Φ (T27.setTop (mkF m 20 #[.val (.ref a), .val (.ref ov), .val (.int (2 : Int32)), .val (.int (0 : Int32)), .val (.int (0 : Int32))] [(.int (-1 : Int32))]))
          refine own_istoreN X27 hx hby d_87_3__20  (Ls' := #[.val (.ref a), .val (.ref ov), .val (.int (2 : Int32)), .val (.int (-1 : Int32)), .val (.int (0 : Int32))]) rfl (pc' := 21) rfl ?_
          refine own_iloadN X27 hx hby d_87_3__21 rfl (pc' := 22) rfl ?_
          refine own_ifY X27 hx hby d_87_3__22 ((if0 _ _).trans (tlt (by decide)).1) (by decide) (pc' := 42) (by decide) ?_
          refine own_iconst X27 hx hby d_87_3__42 (v := (0 : Int32)) rfl (pc' := 43) rfl ?_
          exact own_retN X27 hx hby fin hret (by simp) rfl d_87_3__43 (by decide) (by decide) ⟨by rw [(own_cva (own_l1 gz0 gx0))], rfl, e27⟩
      · by_cases gx1 : (0 : Int32) < x1
        · have ez : own_pr z0 z1 = [] := by rw [own_pr, if_neg gz0, if_neg gz1]; rfl
          have lz : own_pl z0 z1 = (0 : Int32) := by rw [own_pl, if_neg gz0, if_neg gz1]; decide
          have ex : own_pr x0 x1 = [(.int (1 : Int32)), (.int x1)] := by rw [own_pr, if_neg gx0, if_pos gx1]; rfl
          have lx : own_pl x0 x1 = (2 : Int32) := by rw [own_pl, if_neg gx0, if_pos gx1]; decide
          rw [ez] at V
          rw [lz] at F2
          rw [ex] at W
          rw [lx]
          show GoP p e below Φ (T.setTop (mkF m 0 #[.val (.ref a), .val (.ref ov), .val (.int (2 : Int32)), .unset, .unset] []))
          refine own_iconst X hx hby d_87_3__0 (v := (0 : Int32)) rfl (pc' := 1) rfl ?_
          refine own_istoreN X hx hby d_87_3__1  (Ls' := #[.val (.ref a), .val (.ref ov), .val (.int (2 : Int32)), .val (.int (0 : Int32)), .unset]) rfl (pc' := 2) rfl ?_
          refine own_iconst X hx hby d_87_3__2 (v := (0 : Int32)) rfl (pc' := 3) rfl ?_
          refine own_istore X hx hby d_87_3__3  (Ls' := #[.val (.ref a), .val (.ref ov), .val (.int (2 : Int32)), .val (.int (0 : Int32)), .val (.int (0 : Int32))]) rfl (pc' := 5) rfl ?_
          refine own_iload X hx hby d_87_3__5 rfl (pc' := 7) rfl ?_
          refine own_iloadN X hx hby d_87_3__7 rfl (pc' := 8) rfl ?_
          refine own_icmpN X hx hby d_87_3__8 (tlt (by decide)).2.1 (pc' := 11) rfl ?_
          refine own_aloadN X hx hby d_87_3__11 rfl rfl (pc' := 12) rfl ?_
          refine own_aloadN X hx hby d_87_3__12 rfl rfl (pc' := 13) rfl ?_
          refine own_iload X hx hby d_87_3__13 rfl (pc' := 15) rfl ?_
          refine own_iaload X hx hby hZ eT W (by decide) (v := (.int (1 : Int32))) rfl d_87_3__15 (pc' := 16) rfl ?_
          refine own_iloadN X hx hby d_87_3__16 rfl (pc' := 17) rfl ?_
          refine own_callP X hx hby hZ (by exact hml) hown (own_w hw 212 rfl) (own_w hw 214 rfl) (own_selfsel (z := ({ cls := "com/example/tracemass/tracemass/qstates/SilentPath$Pairs", name := "read", desc := "(Lcom/example/tracemass/tracemass/nets/Marking;[ZI)V" } : Jvm.MethodName)) (own_w hw 213 rfl) (own_w hw 214 rfl) rfl (own_w hw 168 rfl) (by decide)) (own_w hw 213 rfl) (own_w hw 102 rfl) (own_w hw 215 rfl) (by decide) eT 0 (by decide) (by decide) (by decide) (by decide) (argsL := [(.int (1 : Int32)), (.int (0 : Int32))]) (rest := []) (lenOf pd__II_I rfl) rfl (Nat.le_of_eq rfl) E (rmIx0_1 l Z a0 hw a hv z0 z1 h0 F1 F2 V) d_87_3__17 (pc' := 20) rfl ?_
          intro v28 T28 L28 X28 hQ28
          obtain ⟨rfl, rfl, e28⟩ := hQ28
          rw [List.append_nil] at X28
          replace e28 : T28.heap = h0 := e28
          show GoP p e below Φ (T28.setTop (mkF m 20 #[.val (.ref a), .val (.ref ov), .val (.int (2 : Int32)), .val (.int (0 : Int32)), .val (.int (0 : Int32))] [(.int (-1 : Int32))]))
          refine own_istoreN X28 hx hby d_87_3__20  (Ls' := #[.val (.ref a), .val (.ref ov), .val (.int (2 : Int32)), .val (.int (-1 : Int32)), .val (.int (0 : Int32))]) rfl (pc' := 21) rfl ?_
          refine own_iloadN X28 hx hby d_87_3__21 rfl (pc' := 22) rfl ?_
          refine own_ifY X28 hx hby d_87_3__22 ((if0 _ _).trans (tlt (by decide)).1) (by decide) (pc' := 42) (by decide) ?_
          refine own_iconst X28 hx hby d_87_3__42 (v := (0 : Int32)) rfl (pc' := 43) rfl ?_
          exact own_retN X28 hx hby fin hret (by simp) rfl d_87_3__43 (by decide) (by decide) ⟨by rw [(own_cvb (own_l1 gz1 gx1))], rfl, e28⟩
        · have ez : own_pr z0 z1 = [] := by rw [own_pr, if_neg gz0, if_neg gz1]; rfl
          have lz : own_pl z0 z1 = (0 : Int32) := by rw [own_pl, if_neg gz0, if_neg gz1]; decide
          have ex : own_pr x0 x1 = [] := by rw [own_pr, if_neg gx0, if_neg gx1]; rfl
          have lx : own_pl x0 x1 = (0 : Int32) := by rw [own_pl, if_neg gx0, if_neg gx1]; decide
          rw [ez] at V
          rw [lz] at F2
          rw [ex] at W
          rw [lx]
          show GoP p e below Φ (T.setTop (mkF m 0 #[.val (.ref a), .val (.ref ov), .val (.int (0 : Int32)), .unset, .unset] []))
          refine own_iconst X hx hby d_87_3__0 (v := (0 : Int32)) rfl (pc' := 1) rfl ?_
          refine own_istoreN X hx hby d_87_3__1  (Ls' := #[.val (.ref a), .val (.ref ov), .val (.int (0 : Int32)), .val (.int (0 : Int32)), .unset]) rfl (pc' := 2) rfl ?_
          refine own_iconst X hx hby d_87_3__2 (v := (0 : Int32)) rfl (pc' := 3) rfl ?_
          refine own_istore X hx hby d_87_3__3  (Ls' := #[.val (.ref a), .val (.ref ov), .val (.int (0 : Int32)), .val (.int (0 : Int32)), .val (.int (0 : Int32))]) rfl (pc' := 5) rfl ?_
          refine own_iload X hx hby d_87_3__5 rfl (pc' := 7) rfl ?_
          refine own_iloadN X hx hby d_87_3__7 rfl (pc' := 8) rfl ?_
          refine own_icmpY X hx hby d_87_3__8 (flt (by decide)).2.1 (by decide) (pc' := 50) (by decide) ?_
          refine own_iconst X hx hby d_87_3__50 (v := (1 : Int32)) rfl (pc' := 51) rfl ?_
          exact own_retN X hx hby fin hret (by simp) rfl d_87_3__51 (by decide) (by decide) ⟨by rw [(own_cvc (own_l2 nz0 gx0) (own_l2 nz1 gx1))], rfl, eT⟩
theorem ef_rmLc (m : MethodId) (x0 : Addr) : entryFrame m #[(.ref x0)] 1 = mkF m 0 #[.val (.ref x0)] [] := by first | (simp [entryFrame, mkF, argsToLocals, Value.category]; done) | rfl
theorem pn_com_example_tracemass_tracemass_numbers_Work_Limits : plainName "com/example/tracemass/tracemass/numbers/Work$Limits" = true := by first | (simp [plainName, overriddenIn]; done) | decide +kernel
theorem d_64_6__0 : decode prog_64_method_6_code 0 = .ok (.ldc2_w 27, 3) := by decide +kernel
theorem d_64_6__3 : decode prog_64_method_6_code 3 = .ok (.aload_n 0, 1) := by decide +kernel
theorem d_64_6__4 : decode prog_64_method_6_code 4 = .ok (.getfield 21, 3) := by decide +kernel
theorem d_64_6__7 : decode prog_64_method_6_code 7 = .ok (.i2l, 1) := by decide +kernel
theorem d_64_6__8 : decode prog_64_method_6_code 8 = .ok (.lmul, 1) := by decide +kernel
theorem d_64_6__9 : decode prog_64_method_6_code 9 = .ok (.lreturn, 1) := by decide +kernel
set_option maxRecDepth 65536 in
set_option maxHeartbeats 40000000 in
theorem rmLc (l : Launch) (Z : State) (a0 : Array Value) (hw : ∀ d ∈ tables_1, d.before a0 Z = true) (a : Addr) (h0 : Heap) (F : Fld Z h0 a "com/example/tracemass/tracemass/numbers/Work$Limits" "times" "I" (.int (1 : Int32))) : Con l Z (⟨"com/example/tracemass/tracemass/numbers/Work$Limits", "comparisons", "()J"⟩ : MethodName) prog_64_method_6_code 1 (some .long) [] ({ frames := 0, cells := 0, slots := 0, locals := 0 } : Room) #[(.ref a)] h0 (fun v h L => v = some (.long (100000000 : Int64)) ∧ L = [] ∧ h = h0) := by
  refine Con.of (plainFor_of_name pn_com_example_tracemass_tracemass_numbers_Work_Limits) ?_
  intro p e s m below meth c T X hx hby hml hown hnm hret eT hZ hsh Φ fin
  replace hown : s.vm.findClass "com/example/tracemass/tracemass/numbers/Work$Limits" = some m.cls := hown
  replace hml : 1 = c.maxLocals := hml.symm
  refine own_step (fun tq kq => castTop (ef_rmLc m a) kq) ?_
  refine own_ldc2J X hx hby hZ hown (own_w hw 200 rfl) d_64_6__0 (pc' := 3) rfl ?_
  refine own_aloadN X hx hby d_64_6__3 rfl rfl (pc' := 4) rfl ?_
  refine own_getF X hx hby hZ hown (host := "") (Or.inl (own_w hw 201 rfl)) Via.refl eT F d_64_6__4 (pc' := 7) rfl ?_
  intro T1 X1 e1
  refine own_i2l X1 hx hby d_64_6__7 (pc' := 8) rfl ?_
  show GoP p e below Φ (T1.setTop (mkF m 8 #[.val (.ref a)] [(.long (1 : Int64)), (.long (100000000 : Int64))]))
  refine own_lmul X1 hx hby d_64_6__8 (pc' := 9) rfl ?_
  show GoP p e below Φ (T1.setTop (mkF m 9 #[.val (.ref a)] [(.long (100000000 : Int64))]))
  exact own_retJ X1 hx hby fin hret d_64_6__9 (by decide) (by decide) ⟨rfl, rfl, e1⟩
theorem ef_rmCm (m : MethodId) (x0 : Addr) (x1 : Int32) : entryFrame m #[(.ref x0), (.int x1)] 2 = mkF m 0 #[.val (.ref x0), .val (.int x1)] [] := by first | (simp [entryFrame, mkF, argsToLocals, Value.category]; done) | rfl
theorem pn_com_example_tracemass_tracemass_numbers_Work : plainName "com/example/tracemass/tracemass/numbers/Work" = true := by first | (simp [plainName, overriddenIn]; done) | decide +kernel
theorem d_63_6__0 : decode prog_63_method_6_code 0 = .ok (.iload_n 1, 1) := by decide +kernel
theorem d_63_6__1 : decode prog_63_method_6_code 1 = .ok (.i2l, 1) := by decide +kernel
theorem d_63_6__2 : decode prog_63_method_6_code 2 = .ok (.aload_n 0, 1) := by decide +kernel
theorem d_63_6__3 : decode prog_63_method_6_code 3 = .ok (.getfield 23, 3) := by decide +kernel
theorem d_63_6__6 : decode prog_63_method_6_code 6 = .ok (.invokevirtual 66, 3) := by decide +kernel
theorem pd___J : parseMethodDescriptor "()J" = some ⟨[], some .long⟩ := by decide +kernel
theorem d_63_6__9 : decode prog_63_method_6_code 9 = .ok (.aload_n 0, 1) := by decide +kernel
theorem d_63_6__10 : decode prog_63_method_6_code 10 = .ok (.getfield 69, 3) := by decide +kernel
theorem d_63_6__13 : decode prog_63_method_6_code 13 = .ok (.lsub, 1) := by decide +kernel
theorem d_63_6__14 : decode prog_63_method_6_code 14 = .ok (.lcmp, 1) := by decide +kernel
theorem d_63_6__15 : decode prog_63_method_6_code 15 = .ok (.ifCond .le 5, 3) := by decide +kernel
theorem d_63_6__20 : decode prog_63_method_6_code 20 = .ok (.aload_n 0, 1) := by decide +kernel
theorem d_63_6__21 : decode prog_63_method_6_code 21 = .ok (.dup, 1) := by decide +kernel
theorem d_63_6__22 : decode prog_63_method_6_code 22 = .ok (.getfield 69, 3) := by decide +kernel
theorem d_63_6__25 : decode prog_63_method_6_code 25 = .ok (.iload_n 1, 1) := by decide +kernel
theorem d_63_6__26 : decode prog_63_method_6_code 26 = .ok (.i2l, 1) := by decide +kernel
theorem d_63_6__27 : decode prog_63_method_6_code 27 = .ok (.ladd, 1) := by decide +kernel
theorem d_63_6__28 : decode prog_63_method_6_code 28 = .ok (.putfield 69, 3) := by decide +kernel
theorem d_63_6__31 : decode prog_63_method_6_code 31 = .ok (.iconst 1, 1) := by decide +kernel
theorem d_63_6__32 : decode prog_63_method_6_code 32 = .ok (.ireturn, 1) := by decide +kernel
set_option maxRecDepth 65536 in
set_option maxHeartbeats 40000000 in
theorem rmCm (l : Launch) (Z : State) (a0 : Array Value) (hw : ∀ d ∈ tables_1, d.before a0 Z = true) (a lm : Addr) (r : Int32) (n0 : Nat) (h0 : Heap) (n0_a : n0 ≤ a) (ne_lm : lm ≠ a) (hr : ¬ (100000000 : Int64) < r.toInt64) (E : Exa Z h0 a "com/example/tracemass/tracemass/numbers/Work") (F1 : Fld Z h0 a "com/example/tracemass/tracemass/numbers/Work" "limits" "Lcom/example/tracemass/tracemass/numbers/Work$Limits;" (.ref lm)) (F2 : Fld Z h0 a "com/example/tracemass/tracemass/numbers/Work" "comparisons" "J" (.long (0 : Int64))) (El : Exa Z h0 lm "com/example/tracemass/tracemass/numbers/Work$Limits") (Fl : Fld Z h0 lm "com/example/tracemass/tracemass/numbers/Work$Limits" "times" "I" (.int (1 : Int32))) : Con l Z (⟨"com/example/tracemass/tracemass/numbers/Work", "compare", "(I)Z"⟩ : MethodName) prog_63_method_6_code 2 (some .boolean) [] ({ frames := 1, cells := 0, slots := 0, locals := 20 } : Room) #[(.ref a), (.int r)] h0 (fun v h L => v = some (.int (1 : Int32)) ∧ Fr n0 L ∧ Keep h0 h [a]) := by
  refine Con.of (plainFor_of_name pn_com_example_tracemass_tracemass_numbers_Work) ?_
  intro p e s m below meth c T X hx hby hml hown hnm hret eT hZ hsh Φ fin
  replace hown : s.vm.findClass "com/example/tracemass/tracemass/numbers/Work" = some m.cls := hown
  replace hml : 2 = c.maxLocals := hml.symm
  refine own_step (fun tq kq => castTop (ef_rmCm m a r) kq) ?_
  have N0 := Fr.nil n0
  have K0 : Keep h0 h0 [a] := Keep.refl h0 [a]
  refine own_iloadN X hx hby d_63_6__0 rfl (pc' := 1) rfl ?_
  refine own_i2l X hx hby d_63_6__1 (pc' := 2) rfl ?_
  refine own_aloadN X hx hby d_63_6__2 rfl rfl (pc' := 3) rfl ?_
  refine own_getF X hx hby hZ hown (host := "") (Or.inl (own_w hw 78 rfl)) Via.refl eT F1 d_63_6__3 (pc' := 6) rfl ?_
  intro T1 X1 e1
  refine own_callV X1 hx hby hZ (by exact hml) hown (own_w hw 195 rfl) (own_w hw 196 rfl) (own_w hw 198 rfl) (own_w hw 197 rfl) (own_w hw 56 rfl) (own_w hw 199 rfl) (by decide) e1 2 (by decide) (by decide) (by decide) (by decide) (argsL := []) (rest := [(.long (r.toInt64))]) (lenOf pd___J rfl) rfl (Nat.le_of_eq rfl) El (rmLc l Z a0 hw lm h0 Fl) d_63_6__6 (pc' := 9) rfl ?_
  intro v2 T2 L2 X2 hQ2
  obtain ⟨rfl, rfl, e2⟩ := hQ2
  rw [List.append_nil] at X2
  replace e2 : T2.heap = h0 := e2
  show GoP p e below Φ (T2.setTop (mkF m 9 #[.val (.ref a), .val (.int r)] [(.long (100000000 : Int64)), (.long (r.toInt64))]))
  refine own_aloadN X2 hx hby d_63_6__9 rfl rfl (pc' := 10) rfl ?_
  refine own_getF X2 hx hby hZ hown (host := "") (Or.inl (own_w hw 203 rfl)) Via.refl e2 F2 d_63_6__10 (pc' := 13) rfl ?_
  intro T3 X3 e3
  refine own_lsub X3 hx hby d_63_6__13 (pc' := 14) rfl ?_
  show GoP p e below Φ (T3.setTop (mkF m 14 #[.val (.ref a), .val (.int r)] [(.long (100000000 : Int64)), (.long (r.toInt64))]))
  refine own_lcmp X3 hx hby d_63_6__14 (pc' := 15) rfl ?_
  refine own_ifY X3 hx hby d_63_6__15 ((if0 _ _).trans (flt (fun q => hr ((lw_gt _ _).mp q))).2.2.2) (by decide) (pc' := 20) (by decide) ?_
  refine own_aloadN X3 hx hby d_63_6__20 rfl rfl (pc' := 21) rfl ?_
  refine own_dup X3 hx hby d_63_6__21 rfl (pc' := 22) rfl ?_
  refine own_getF X3 hx hby hZ hown (host := "") (Or.inl (own_w hw 203 rfl)) Via.refl e3 F2 d_63_6__22 (pc' := 25) rfl ?_
  intro T4 X4 e4
  refine own_iloadN X4 hx hby d_63_6__25 rfl (pc' := 26) rfl ?_
  refine own_i2l X4 hx hby d_63_6__26 (pc' := 27) rfl ?_
  refine own_ladd X4 hx hby d_63_6__27 (pc' := 28) rfl ?_
  refine own_putF X4 hx hby hZ hown (host := "") (Or.inl (own_w hw 203 rfl)) Via.refl e4 F2 E (Or.inl (own_w hw 204 rfl)) (own_w hw 53 rfl) (ty := .long) (by decide) rfl rfl d_63_6__28 (pc' := 31) rfl ?_
  intro T5 h5 X5 e5 W5
  have E6_a := E.wr W5
  have F7_limits := F1.other W5 (Or.inr (slot_ne (Or.inr (own_w hw 79 rfl)) (Or.inl (own_w hw 204 rfl)) (by decide) (t := (.object "com/example/tracemass/tracemass/numbers/Work$Limits")) (t' := .long) (by decide) (by decide)))
  have F8_comparisons := F2.same W5
  have E9_lm := El.wr W5
  have F10_times := Fl.other W5 (Or.inl ne_lm)
  have N5 := Fr.snoc X5 N0 n0_a
  have K5 : Keep h0 h5 [a] := K0.wr W5 (Or.inl (List.mem_of_getElem? (i := 0) rfl))
  refine own_iconst X5 hx hby d_63_6__31 (v := (1 : Int32)) rfl (pc' := 32) rfl ?_
  exact own_retN X5 hx hby fin hret (by simp) rfl d_63_6__32 (by decide) (by decide) (by rw [e5]; exact ⟨rfl, N5, K5⟩)
theorem ef_rmW2 (m : MethodId) (x0 : Addr) (x1 : Addr) (x2 : Addr) : entryFrame m #[(.ref x0), (.ref x1), (.ref x2)] 3 = mkF m 0 #[.val (.ref x0), .val (.ref x1), .val (.ref x2)] [] := by first | (simp [entryFrame, mkF, argsToLocals, Value.category]; done) | rfl
theorem d_63_2__0 : decode prog_63_method_2_code 0 = .ok (.aload_n 0, 1) := by decide +kernel
theorem d_63_2__1 : decode prog_63_method_2_code 1 = .ok (.invokespecial 9, 3) := by decide +kernel
theorem d_63_2__4 : decode prog_63_method_2_code 4 = .ok (.aload_n 0, 1) := by decide +kernel
theorem d_63_2__5 : decode prog_63_method_2_code 5 = .ok (.getstatic 14, 3) := by decide +kernel
theorem d_63_2__8 : decode prog_63_method_2_code 8 = .ok (.putfield 20, 3) := by decide +kernel
theorem d_63_2__11 : decode prog_63_method_2_code 11 = .ok (.aload_n 0, 1) := by decide +kernel
theorem d_63_2__12 : decode prog_63_method_2_code 12 = .ok (.aload_n 1, 1) := by decide +kernel
theorem d_63_2__13 : decode prog_63_method_2_code 13 = .ok (.putfield 23, 3) := by decide +kernel
theorem d_63_2__16 : decode prog_63_method_2_code 16 = .ok (.aload_n 0, 1) := by decide +kernel
theorem d_63_2__17 : decode prog_63_method_2_code 17 = .ok (.aload_n 2, 1) := by decide +kernel
theorem d_63_2__18 : decode prog_63_method_2_code 18 = .ok (.putfield 27, 3) := by decide +kernel
theorem d_63_2__21 : decode prog_63_method_2_code 21 = .ok (.return_, 1) := by decide +kernel
set_option maxRecDepth 65536 in
set_option maxHeartbeats 40000000 in
theorem rmW2 (l : Launch) (Z : State) (a0 : Array Value) (hw : ∀ d ∈ tables_1, d.before a0 Z = true) (a lm lt1 fr : Addr) (n0 : Nat) (h0 : Heap) (n0_a : n0 ≤ a) (E : Exa Z h0 a "com/example/tracemass/tracemass/numbers/Work") (F_last : Fld Z h0 a "com/example/tracemass/tracemass/numbers/Work" "last" "Lcom/example/tracemass/tracemass/numbers/Work$Operands;" .null) (F_limits : Fld Z h0 a "com/example/tracemass/tracemass/numbers/Work" "limits" "Lcom/example/tracemass/tracemass/numbers/Work$Limits;" .null) (F_tooLarge : Fld Z h0 a "com/example/tracemass/tracemass/numbers/Work" "tooLarge" "Ljava/lang/String;" .null) (F_comparisons : Fld Z h0 a "com/example/tracemass/tracemass/numbers/Work" "comparisons" "J" (.long (0 : Int64))) (S : Sta Z h0 "com/example/tracemass/tracemass/numbers/Work$Operands" "FRACTIONS" "Lcom/example/tracemass/tracemass/numbers/Work$Operands;" (.ref fr)) : Con l Z (⟨"com/example/tracemass/tracemass/numbers/Work", "<init>", "(Lcom/example/tracemass/tracemass/numbers/Work$Limits;Ljava/lang/String;)V"⟩ : MethodName) prog_63_method_2_code 3 none [] ({ frames := 1, cells := 0, slots := 0, locals := 14 } : Room) #[(.ref a), (.ref lm), (.ref lt1)] h0 (fun v h L => v = none ∧ Fr n0 L ∧ Keep h0 h [a] ∧ Exa Z h a "com/example/tracemass/tracemass/numbers/Work" ∧ Fld Z h a "com/example/tracemass/tracemass/numbers/Work" "limits" "Lcom/example/tracemass/tracemass/numbers/Work$Limits;" (.ref lm) ∧ Fld Z h a "com/example/tracemass/tracemass/numbers/Work" "comparisons" "J" (.long (0 : Int64))) := by
  refine Con.of (plainFor_of_name pn_com_example_tracemass_tracemass_numbers_Work) ?_
  intro p e s m below meth c T X hx hby hml hown hnm hret eT hZ hsh Φ fin
  replace hown : s.vm.findClass "com/example/tracemass/tracemass/numbers/Work" = some m.cls := hown
  replace hml : 3 = c.maxLocals := hml.symm
  refine own_step (fun tq kq => castTop (ef_rmW2 m a lm lt1) kq) ?_
  have N0 := Fr.nil n0
  have K0 : Keep h0 h0 [a] := Keep.refl h0 [a]
  refine own_aloadN X hx hby d_63_2__0 rfl rfl (pc' := 1) rfl ?_
  obtain ⟨T1, X1, e1, st1⟩ := initO X hx hZ hown (own_w hw 72 rfl) (own_w hw 28 rfl) (own_w hw 29 rfl) eT (g := (mkF m 1 #[.val (.ref a), .val (.ref lm), .val (.ref lt1)] [(.ref a)])) rfl hml rfl (hb hby d_63_2__1) (by decide) (W := 0) (by show 2 * 0 + _ ≤ _; exact Nat.le_of_eq rfl) (by decide)
  refine own_step st1 ?_
  show GoP p e below Φ (T1.setTop (mkF m 4 #[.val (.ref a), .val (.ref lm), .val (.ref lt1)] []))
  refine own_aloadN X1 hx hby d_63_2__4 rfl rfl (pc' := 5) rfl ?_
  refine own_getS X1 hx hby hZ hown (host := "") (Or.inl (own_w hw 73 rfl)) Via.refl e1 S d_63_2__5 (pc' := 8) rfl ?_
  intro T2 X2 e2
  refine own_putF X2 hx hby hZ hown (host := "") (Or.inl (own_w hw 76 rfl)) Via.refl e2 F_last E (Or.inl (own_w hw 77 rfl)) (own_w hw 53 rfl) (ty := (.object "com/example/tracemass/tracemass/numbers/Work$Operands")) (by decide) rfl rfl d_63_2__8 (pc' := 11) rfl ?_
  intro T3 h3 X3 e3 W3
  have E4_a := E.wr W3
  have S5_FRACTIONS := S.wr W3
  have F6_last := F_last.same W3
  have F7_limits := F_limits.other W3 (Or.inr (slot_ne (Or.inr (own_w hw 79 rfl)) (Or.inl (own_w hw 77 rfl)) (by decide) (t := (.object "com/example/tracemass/tracemass/numbers/Work$Limits")) (t' := (.object "com/example/tracemass/tracemass/numbers/Work$Operands")) (by decide) (by decide)))
  have F8_tooLarge := F_tooLarge.other W3 (Or.inr (slot_ne (Or.inr (own_w hw 81 rfl)) (Or.inl (own_w hw 77 rfl)) (by decide) (t := (.object "java/lang/String")) (t' := (.object "com/example/tracemass/tracemass/numbers/Work$Operands")) (by decide) (by decide)))
  have F9_comparisons := F_comparisons.other W3 (Or.inr (slot_ne (Or.inl (own_w hw 204 rfl)) (Or.inl (own_w hw 77 rfl)) (by decide) (t := .long) (t' := (.object "com/example/tracemass/tracemass/numbers/Work$Operands")) (by decide) (by decide)))
  have N3 := Fr.snoc X3 N0 n0_a
  have K3 : Keep h0 h3 [a] := K0.wr W3 (Or.inl (List.mem_of_getElem? (i := 0) rfl))
  refine own_aloadN X3 hx hby d_63_2__11 rfl rfl (pc' := 12) rfl ?_
  refine own_aloadN X3 hx hby d_63_2__12 rfl rfl (pc' := 13) rfl ?_
  refine own_putF X3 hx hby hZ hown (host := "") (Or.inl (own_w hw 78 rfl)) Via.refl e3 F7_limits E4_a (Or.inr ⟨(own_w hw 79 rfl), rfl, hnm⟩) (own_w hw 53 rfl) (ty := (.object "com/example/tracemass/tracemass/numbers/Work$Limits")) (by decide) rfl rfl d_63_2__13 (pc' := 16) rfl ?_
  intro T10 h10 X10 e10 W10
  have E11_a := E4_a.wr W10
  have S12_FRACTIONS := S5_FRACTIONS.wr W10
  have F13_last := F6_last.other W10 (Or.inr (slot_ne (Or.inl (own_w hw 77 rfl)) (Or.inr (own_w hw 79 rfl)) (by decide) (t := (.object "com/example/tracemass/tracemass/numbers/Work$Operands")) (t' := (.object "com/example/tracemass/tracemass/numbers/Work$Limits")) (by decide) (by decide)))
  have F14_limits := F7_limits.same W10
  have F15_tooLarge := F8_tooLarge.other W10 (Or.inr (slot_ne (Or.inr (own_w hw 81 rfl)) (Or.inr (own_w hw 79 rfl)) (by decide) (t := (.object "java/lang/String")) (t' := (.object "com/example/tracemass/tracemass/numbers/Work$Limits")) (by decide) (by decide)))
  have F16_comparisons := F9_comparisons.other W10 (Or.inr (slot_ne (Or.inl (own_w hw 204 rfl)) (Or.inr (own_w hw 79 rfl)) (by decide) (t := .long) (t' := (.object "com/example/tracemass/tracemass/numbers/Work$Limits")) (by decide) (by decide)))
  have N10 := Fr.snoc X10 N3 n0_a
  have K10 : Keep h0 h10 [a] := K3.wr W10 (Or.inl (List.mem_of_getElem? (i := 0) rfl))
  refine own_aloadN X10 hx hby d_63_2__16 rfl rfl (pc' := 17) rfl ?_
  refine own_aloadN X10 hx hby d_63_2__17 rfl rfl (pc' := 18) rfl ?_
  refine own_putF X10 hx hby hZ hown (host := "") (Or.inl (own_w hw 80 rfl)) Via.refl e10 F15_tooLarge E11_a (Or.inr ⟨(own_w hw 81 rfl), rfl, hnm⟩) (own_w hw 53 rfl) (ty := (.object "java/lang/String")) (by decide) rfl rfl d_63_2__18 (pc' := 21) rfl ?_
  intro T17 h17 X17 e17 W17
  have E18_a := E11_a.wr W17
  have S19_FRACTIONS := S12_FRACTIONS.wr W17
  have F20_last := F13_last.other W17 (Or.inr (slot_ne (Or.inl (own_w hw 77 rfl)) (Or.inr (own_w hw 81 rfl)) (by decide) (t := (.object "com/example/tracemass/tracemass/numbers/Work$Operands")) (t' := (.object "java/lang/String")) (by decide) (by decide)))
  have F21_limits := F14_limits.other W17 (Or.inr (slot_ne (Or.inr (own_w hw 79 rfl)) (Or.inr (own_w hw 81 rfl)) (by decide) (t := (.object "com/example/tracemass/tracemass/numbers/Work$Limits")) (t' := (.object "java/lang/String")) (by decide) (by decide)))
  have F22_tooLarge := F15_tooLarge.same W17
  have F23_comparisons := F16_comparisons.other W17 (Or.inr (slot_ne (Or.inl (own_w hw 204 rfl)) (Or.inr (own_w hw 81 rfl)) (by decide) (t := .long) (t' := (.object "java/lang/String")) (by decide) (by decide)))
  have N17 := Fr.snoc X17 N10 n0_a
  have K17 : Keep h0 h17 [a] := K10.wr W17 (Or.inl (List.mem_of_getElem? (i := 0) rfl))
  exact own_ret0 X17 hx hby fin hret d_63_2__21 (by decide) (by decide) (by rw [e17]; exact ⟨rfl, N17, K17, E18_a, F21_limits, F23_comparisons⟩)
theorem ef_rmW1 (m : MethodId) (x0 : Addr) (x1 : Addr) : entryFrame m #[(.ref x0), (.ref x1)] 2 = mkF m 0 #[.val (.ref x0), .val (.ref x1)] [] := by first | (simp [entryFrame, mkF, argsToLocals, Value.category]; done) | rfl
theorem d_63_1__0 : decode prog_63_method_1_code 0 = .ok (.aload_n 0, 1) := by decide +kernel
theorem d_63_1__1 : decode prog_63_method_1_code 1 = .ok (.aload_n 1, 1) := by decide +kernel
theorem d_63_1__2 : decode prog_63_method_1_code 2 = .ok (.ldc 3, 2) := by decide +kernel
theorem d_63_1__4 : decode prog_63_method_1_code 4 = .ok (.invokespecial 5, 3) := by decide +kernel
theorem pd__Lcom_example_tracemass_tracemass_numbers_Work_Limits_Ljava_lang_String__V : parseMethodDescriptor "(Lcom/example/tracemass/tracemass/numbers/Work$Limits;Ljava/lang/String;)V" = some ⟨[(.object "com/example/tracemass/tracemass/numbers/Work$Limits"), (.object "java/lang/String")], none⟩ := by decide +kernel
theorem d_63_1__7 : decode prog_63_method_1_code 7 = .ok (.return_, 1) := by decide +kernel
set_option maxRecDepth 65536 in
set_option maxHeartbeats 40000000 in
theorem rmW1 (l : Launch) (Z : State) (a0 : Array Value) (hw : ∀ d ∈ tables_1, d.before a0 Z = true) (a lm fr : Addr) (n0 : Nat) (h0 : Heap) (n0_a : n0 ≤ a) (E : Exa Z h0 a "com/example/tracemass/tracemass/numbers/Work") (F_last : Fld Z h0 a "com/example/tracemass/tracemass/numbers/Work" "last" "Lcom/example/tracemass/tracemass/numbers/Work$Operands;" .null) (F_limits : Fld Z h0 a "com/example/tracemass/tracemass/numbers/Work" "limits" "Lcom/example/tracemass/tracemass/numbers/Work$Limits;" .null) (F_tooLarge : Fld Z h0 a "com/example/tracemass/tracemass/numbers/Work" "tooLarge" "Ljava/lang/String;" .null) (F_comparisons : Fld Z h0 a "com/example/tracemass/tracemass/numbers/Work" "comparisons" "J" (.long (0 : Int64))) (S : Sta Z h0 "com/example/tracemass/tracemass/numbers/Work$Operands" "FRACTIONS" "Lcom/example/tracemass/tracemass/numbers/Work$Operands;" (.ref fr)) : ConX l Z (⟨"com/example/tracemass/tracemass/numbers/Work", "<init>", "(Lcom/example/tracemass/tracemass/numbers/Work$Limits;)V"⟩ : MethodName) prog_63_method_1_code 2 none [] ({ frames := 2, cells := 2, slots := 156, locals := 32 } : Room) #[(.ref a), (.ref lm)] h0 (fun _ => True) (fun v h vm L => v = none ∧ Fr n0 L ∧ Keep h0 h [a] ∧ Exa Z h a "com/example/tracemass/tracemass/numbers/Work" ∧ Fld Z h a "com/example/tracemass/tracemass/numbers/Work" "limits" "Lcom/example/tracemass/tracemass/numbers/Work$Limits;" (.ref lm) ∧ Fld Z h a "com/example/tracemass/tracemass/numbers/Work" "comparisons" "J" (.long (0 : Int64))) := by
  refine ConX.of (plainFor_of_name pn_com_example_tracemass_tracemass_numbers_Work) ?_
  intro p e s m below meth c T vm0 k0 X hx hby hml hown hnm hret eT hZ hsh hS hk hPv Φ fin
  replace hown : vm0.findClass "com/example/tracemass/tracemass/numbers/Work" = some m.cls := hown
  replace hml : 2 = c.maxLocals := hml.symm
  refine own_step (fun tq kq => castTop (ef_rmW1 m a lm) kq) ?_
  have N0 := Fr.nil n0
  have K0 : Keep h0 h0 [a] := Keep.refl h0 [a]
  refine own_aloadN X hx hby d_63_1__0 rfl rfl (pc' := 1) rfl ?_
  refine own_aloadN X hx hby d_63_1__1 rfl rfl (pc' := 2) rfl ?_
  refine own_ldcS X hx hby hZ hown (own_w hw 61 rfl) (own_strs hw) eT hS hk d_63_1__2 152 (by decide) (by decide) (by decide) (by decide) (pc' := 4) rfl ?_
  clear hS hk hZ hown
  intro b1 T1 h1 k1 X1 e1 E1 hS hk hZ hown
  have E2_a := E.ext E1
  have S3_FRACTIONS := S.ext E1
  have F4_last := F_last.ext E1
  have F5_limits := F_limits.ext E1
  have F6_tooLarge := F_tooLarge.ext E1
  have F7_comparisons := F_comparisons.ext E1
  have K1 : Keep h0 h1 [a] := K0.ext E1
  show GoP p e below Φ (T1.setTop (mkF m 4 #[.val (.ref a), .val (.ref lm)] [(.ref b1), (.ref lm), (.ref a)]))
  refine own_callI X1 hx hby hZ (by exact hml) hown rfl (own_w hw 69 rfl) (own_w hw 70 rfl) (own_w hw 54 rfl) (own_w hw 71 rfl) (by decide) e1 0 (by decide) (by decide) (by decide) (by decide) (argsL := [(.ref lm), (.ref b1)]) (rest := []) (lenOf pd__Lcom_example_tracemass_tracemass_numbers_Work_Limits_Ljava_lang_String__V rfl) rfl (Nat.le_of_eq rfl) (rmW2 l Z a0 hw a lm b1 fr n0 h1 n0_a E2_a F4_last F5_limits F6_tooLarge F7_comparisons S3_FRACTIONS) d_63_1__4 (pc' := 7) rfl ?_
  intro v8 T8 L8 X8 hQ8
  obtain ⟨rfl, Nq8, K8, E8, F18, F28⟩ := hQ8
  have N8 := Fr.app N0 Nq8
  have KK8 : Keep h0 T8.heap [a] := K1.trans K8 (allS (Or.inl (List.mem_of_getElem? (i := 0) rfl)) all0)
  replace hk := Nat.le_trans hk K8.1
  show GoP p e below Φ (T8.setTop (mkF m 7 #[.val (.ref a), .val (.ref lm)] []))
  exact own_ret0 X8 hx hby (fin _ _ hS) hret d_63_1__7 (by decide) (by decide) ⟨(by exact ⟨rfl, N8, KK8, E8, F18, F28⟩), hk⟩
theorem ef_rmKP0 (m : MethodId) (x0 : Int32) (x1 : Int32) : entryFrame m #[(.int x0), (.int x1)] 2 = mkF m 0 #[.val (.int x0), .val (.int x1)] [] := by first | (simp [entryFrame, mkF, argsToLocals, Value.category]; done) | rfl
theorem d_38_6__0 : decode prog_38_method_6_code 0 = .ok (.iload_n 0, 1) := by decide +kernel
theorem d_38_6__1 : decode prog_38_method_6_code 1 = .ok (.i2l, 1) := by decide +kernel
theorem d_38_6__2 : decode prog_38_method_6_code 2 = .ok (.ldc2_w 79, 3) := by decide +kernel
theorem d_38_6__5 : decode prog_38_method_6_code 5 = .ok (.iload_n 1, 1) := by decide +kernel
theorem d_38_6__6 : decode prog_38_method_6_code 6 = .ok (.i2l, 1) := by decide +kernel
theorem d_38_6__7 : decode prog_38_method_6_code 7 = .ok (.lmul, 1) := by decide +kernel
theorem d_38_6__8 : decode prog_38_method_6_code 8 = .ok (.lcmp, 1) := by decide +kernel
theorem d_38_6__9 : decode prog_38_method_6_code 9 = .ok (.ifCond .gt 7, 3) := by decide +kernel
theorem d_38_6__16 : decode prog_38_method_6_code 16 = .ok (.iconst 0, 1) := by decide +kernel
theorem d_38_6__17 : decode prog_38_method_6_code 17 = .ok (.ireturn, 1) := by decide +kernel
set_option maxRecDepth 65536 in
set_option maxHeartbeats 40000000 in
theorem rmKP0 (l : Launch) (Z : State) (a0 : Array Value) (hw : ∀ d ∈ tables_1, d.before a0 Z = true)  (h0 : Heap)  : Con l Z (⟨"com/example/tracemass/tracemass/nets/Marking", "keptPlaceByPlace", "(II)Z"⟩ : MethodName) prog_38_method_6_code 2 (some .boolean) [] ({ frames := 0, cells := 0, slots := 0, locals := 0 } : Room) #[(.int (2 : Int32)), (.int (0 : Int32))] h0 (fun v h L => v = some (.int (0 : Int32)) ∧ L = [] ∧ h = h0) := by
  refine Con.of (plainFor_of_name pn_com_example_tracemass_tracemass_nets_Marking) ?_
  intro p e s m below meth c T X hx hby hml hown hnm hret eT hZ hsh Φ fin
  replace hown : s.vm.findClass "com/example/tracemass/tracemass/nets/Marking" = some m.cls := hown
  replace hml : 2 = c.maxLocals := hml.symm
  refine own_step (fun tq kq => castTop (ef_rmKP0 m (2 : Int32) (0 : Int32)) kq) ?_
  refine own_iloadN X hx hby d_38_6__0 rfl (pc' := 1) rfl ?_
  refine own_i2l X hx hby d_38_6__1 (pc' := 2) rfl ?_
  show GoP p e below Φ (T.setTop (mkF m 2 #[.val (.int (2 : Int32)), .val (.int (0 : Int32))] [(.long (2 : Int64))]))
  refine own_ldc2J X hx hby hZ hown (own_w hw 9 rfl) d_38_6__2 (pc' := 5) rfl ?_
  refine own_iloadN X hx hby d_38_6__5 rfl (pc' := 6) rfl ?_
  refine own_i2l X hx hby d_38_6__6 (pc' := 7) rfl ?_
  show GoP p e below Φ (T.setTop (mkF m 7 #[.val (.int (2 : Int32)), .val (.int (0 : Int32))] [(.long (0 : Int64)), (.long (2 : Int64)), (.long (2 : Int64))]))
  refine own_lmul X hx hby d_38_6__7 (pc' := 8) rfl ?_
  show GoP p e below Φ (T.setTop (mkF m 8 #[.val (.int (2 : Int32)), .val (.int (0 : Int32))] [(.long (0 : Int64)), (.long (2 : Int64))]))
  refine own_lcmp X hx hby d_38_6__8 (pc' := 9) rfl ?_
  refine own_ifY X hx hby d_38_6__9 ((if0 _ _).trans (tlt ((lw_gt _ _).mpr (show (0 : Int64) < (2 : Int64) from by decide))).2.2.1) (by decide) (pc' := 16) (by decide) ?_
  refine own_iconst X hx hby d_38_6__16 (v := (0 : Int32)) rfl (pc' := 17) rfl ?_
  exact own_retN X hx hby fin hret (by simp) rfl d_38_6__17 (by decide) (by decide) ⟨rfl, rfl, eT⟩
theorem ef_rmKP1 (m : MethodId) (x0 : Int32) (x1 : Int32) : entryFrame m #[(.int x0), (.int x1)] 2 = mkF m 0 #[.val (.int x0), .val (.int x1)] [] := by first | (simp [entryFrame, mkF, argsToLocals, Value.category]; done) | rfl
theorem d_38_6__12 : decode prog_38_method_6_code 12 = .ok (.iconst 1, 1) := by decide +kernel
theorem d_38_6__13 : decode prog_38_method_6_code 13 = .ok (.goto 4, 3) := by decide +kernel
set_option maxRecDepth 65536 in
set_option maxHeartbeats 40000000 in
theorem rmKP1 (l : Launch) (Z : State) (a0 : Array Value) (hw : ∀ d ∈ tables_1, d.before a0 Z = true)  (h0 : Heap)  : Con l Z (⟨"com/example/tracemass/tracemass/nets/Marking", "keptPlaceByPlace", "(II)Z"⟩ : MethodName) prog_38_method_6_code 2 (some .boolean) [] ({ frames := 0, cells := 0, slots := 0, locals := 0 } : Room) #[(.int (2 : Int32)), (.int (1 : Int32))] h0 (fun v h L => v = some (.int (1 : Int32)) ∧ L = [] ∧ h = h0) := by
  refine Con.of (plainFor_of_name pn_com_example_tracemass_tracemass_nets_Marking) ?_
  intro p e s m below meth c T X hx hby hml hown hnm hret eT hZ hsh Φ fin
  replace hown : s.vm.findClass "com/example/tracemass/tracemass/nets/Marking" = some m.cls := hown
  replace hml : 2 = c.maxLocals := hml.symm
  refine own_step (fun tq kq => castTop (ef_rmKP1 m (2 : Int32) (1 : Int32)) kq) ?_
  refine own_iloadN X hx hby d_38_6__0 rfl (pc' := 1) rfl ?_
  refine own_i2l X hx hby d_38_6__1 (pc' := 2) rfl ?_
  show GoP p e below Φ (T.setTop (mkF m 2 #[.val (.int (2 : Int32)), .val (.int (1 : Int32))] [(.long (2 : Int64))]))
  refine own_ldc2J X hx hby hZ hown (own_w hw 9 rfl) d_38_6__2 (pc' := 5) rfl ?_
  refine own_iloadN X hx hby d_38_6__5 rfl (pc' := 6) rfl ?_
  refine own_i2l X hx hby d_38_6__6 (pc' := 7) rfl ?_
  show GoP p e below Φ (T.setTop (mkF m 7 #[.val (.int (2 : Int32)), .val (.int (1 : Int32))] [(.long (1 : Int64)), (.long (2 : Int64)), (.long (2 : Int64))]))
  refine own_lmul X hx hby d_38_6__7 (pc' := 8) rfl ?_
  show GoP p e below Φ (T.setTop (mkF m 8 #[.val (.int (2 : Int32)), .val (.int (1 : Int32))] [(.long (2 : Int64)), (.long (2 : Int64))]))
  refine own_lcmp X hx hby d_38_6__8 (pc' := 9) rfl ?_
  refine own_ifN X hx hby d_38_6__9 ((if0 _ _).trans (flt (fun q => (show ¬ (2 : Int64) < (2 : Int64) from by decide) ((lw_gt _ _).mp q))).2.2.1) (pc' := 12) rfl ?_
  refine own_iconst X hx hby d_38_6__12 (v := (1 : Int32)) rfl (pc' := 13) rfl ?_
  refine own_goto X hx hby d_38_6__13 (by decide) (pc' := 17) (by decide) ?_
  exact own_retN X hx hby fin hret (by simp) rfl d_38_6__17 (by decide) (by decide) ⟨rfl, rfl, eT⟩
theorem ef_rmKP2 (m : MethodId) (x0 : Int32) (x1 : Int32) : entryFrame m #[(.int x0), (.int x1)] 2 = mkF m 0 #[.val (.int x0), .val (.int x1)] [] := by first | (simp [entryFrame, mkF, argsToLocals, Value.category]; done) | rfl
set_option maxRecDepth 65536 in
set_option maxHeartbeats 40000000 in
theorem rmKP2 (l : Launch) (Z : State) (a0 : Array Value) (hw : ∀ d ∈ tables_1, d.before a0 Z = true)  (h0 : Heap)  : Con l Z (⟨"com/example/tracemass/tracemass/nets/Marking", "keptPlaceByPlace", "(II)Z"⟩ : MethodName) prog_38_method_6_code 2 (some .boolean) [] ({ frames := 0, cells := 0, slots := 0, locals := 0 } : Room) #[(.int (2 : Int32)), (.int (2 : Int32))] h0 (fun v h L => v = some (.int (1 : Int32)) ∧ L = [] ∧ h = h0) := by
  refine Con.of (plainFor_of_name pn_com_example_tracemass_tracemass_nets_Marking) ?_
  intro p e s m below meth c T X hx hby hml hown hnm hret eT hZ hsh Φ fin
  replace hown : s.vm.findClass "com/example/tracemass/tracemass/nets/Marking" = some m.cls := hown
  replace hml : 2 = c.maxLocals := hml.symm
  refine own_step (fun tq kq => castTop (ef_rmKP2 m (2 : Int32) (2 : Int32)) kq) ?_
  refine own_iloadN X hx hby d_38_6__0 rfl (pc' := 1) rfl ?_
  refine own_i2l X hx hby d_38_6__1 (pc' := 2) rfl ?_
  show GoP p e below Φ (T.setTop (mkF m 2 #[.val (.int (2 : Int32)), .val (.int (2 : Int32))] [(.long (2 : Int64))]))
  refine own_ldc2J X hx hby hZ hown (own_w hw 9 rfl) d_38_6__2 (pc' := 5) rfl ?_
  refine own_iloadN X hx hby d_38_6__5 rfl (pc' := 6) rfl ?_
  refine own_i2l X hx hby d_38_6__6 (pc' := 7) rfl ?_
  show GoP p e below Φ (T.setTop (mkF m 7 #[.val (.int (2 : Int32)), .val (.int (2 : Int32))] [(.long (2 : Int64)), (.long (2 : Int64)), (.long (2 : Int64))]))
  refine own_lmul X hx hby d_38_6__7 (pc' := 8) rfl ?_
  show GoP p e below Φ (T.setTop (mkF m 8 #[.val (.int (2 : Int32)), .val (.int (2 : Int32))] [(.long (4 : Int64)), (.long (2 : Int64))]))
  refine own_lcmp X hx hby d_38_6__8 (pc' := 9) rfl ?_
  refine own_ifN X hx hby d_38_6__9 ((if0 _ _).trans (flt (fun q => (show ¬ (4 : Int64) < (2 : Int64) from by decide) ((lw_gt _ _).mp q))).2.2.1) (pc' := 12) rfl ?_
  refine own_iconst X hx hby d_38_6__12 (v := (1 : Int32)) rfl (pc' := 13) rfl ?_
  refine own_goto X hx hby d_38_6__13 (by decide) (pc' := 17) (by decide) ?_
  exact own_retN X hx hby fin hret (by simp) rfl d_38_6__17 (by decide) (by decide) ⟨rfl, rfl, eT⟩
theorem ef_rmH4 (m : MethodId) (x0 : Int32) (x1 : Addr) (x2 : Int32) (x3 : Int32) : entryFrame m #[(.int x0), (.ref x1), (.int x2), (.int x3)] 6 = mkF m 0 #[.val (.int x0), .val (.ref x1), .val (.int x2), .val (.int x3), .unset, .unset] [] := by first | (simp [entryFrame, mkF, argsToLocals, Value.category]; done) | rfl
theorem pn_jdk_internal_util_ArraysSupport : plainName "jdk/internal/util/ArraysSupport" = true := by first | (simp [plainName, overriddenIn]; done) | decide +kernel
theorem jd_48_9__0 : decode jdk_48_method_9_code 0 = .ok (.iload_n 2, 1) := by decide +kernel
theorem jd_48_9__1 : decode jdk_48_method_9_code 1 = .ok (.iload_n 3, 1) := by decide +kernel
theorem jd_48_9__2 : decode jdk_48_method_9_code 2 = .ok (.iadd, 1) := by decide +kernel
theorem jd_48_9__3 : decode jdk_48_method_9_code 3 = .ok (.istore 4, 2) := by decide +kernel
theorem jd_48_9__5 : decode jdk_48_method_9_code 5 = .ok (.iload_n 2, 1) := by decide +kernel
theorem jd_48_9__6 : decode jdk_48_method_9_code 6 = .ok (.istore 5, 2) := by decide +kernel
theorem jd_48_9__8 : decode jdk_48_method_9_code 8 = .ok (.iload 5, 2) := by decide +kernel
theorem jd_48_9__10 : decode jdk_48_method_9_code 10 = .ok (.iload 4, 2) := by decide +kernel
theorem jd_48_9__12 : decode jdk_48_method_9_code 12 = .ok (.if_icmp .ge 19, 3) := by decide +kernel
theorem jd_48_9__15 : decode jdk_48_method_9_code 15 = .ok (.bipush 31, 2) := by decide +kernel
theorem jd_48_9__17 : decode jdk_48_method_9_code 17 = .ok (.iload_n 0, 1) := by decide +kernel
theorem jd_48_9__18 : decode jdk_48_method_9_code 18 = .ok (.imul, 1) := by decide +kernel
theorem jd_48_9__19 : decode jdk_48_method_9_code 19 = .ok (.aload_n 1, 1) := by decide +kernel
theorem jd_48_9__20 : decode jdk_48_method_9_code 20 = .ok (.iload 5, 2) := by decide +kernel
theorem jd_48_9__22 : decode jdk_48_method_9_code 22 = .ok (.iaload, 1) := by decide +kernel
theorem jd_48_9__23 : decode jdk_48_method_9_code 23 = .ok (.iadd, 1) := by decide +kernel
theorem jd_48_9__24 : decode jdk_48_method_9_code 24 = .ok (.istore_n 0, 1) := by decide +kernel
theorem jd_48_9__25 : decode jdk_48_method_9_code 25 = .ok (.iinc 5 1, 3) := by decide +kernel
theorem jd_48_9__28 : decode jdk_48_method_9_code 28 = .ok (.goto (-20), 3) := by decide +kernel
theorem jd_48_9__31 : decode jdk_48_method_9_code 31 = .ok (.iload_n 0, 1) := by decide +kernel
theorem jd_48_9__32 : decode jdk_48_method_9_code 32 = .ok (.ireturn, 1) := by decide +kernel
set_option maxRecDepth 65536 in
set_option maxHeartbeats 40000000 in
theorem rmH4 (l : Launch) (Z : State) (a0 : Array Value) (hw : ∀ d ∈ tables_1, d.before a0 Z = true) (ct : Addr) (x y : Int32) (h0 : Heap) (V : AV Z h0 ct .int [.int x, .int y]) : Con l Z (⟨"jdk/internal/util/ArraysSupport", "hashCode", "(I[III)I"⟩ : MethodName) jdk_48_method_9_code 6 (some .int) [] ({ frames := 0, cells := 0, slots := 0, locals := 0 } : Room) #[(.int (1 : Int32)), (.ref ct), (.int (0 : Int32)), (.int (2 : Int32))] h0 (fun v h L => ∃ r : Int32, v = some (.int r) ∧ L = [] ∧ h = h0) := by
  refine Con.of (plainFor_of_name pn_jdk_internal_util_ArraysSupport) ?_
  intro p e s m below meth c T X hx hby hml hown hnm hret eT hZ hsh Φ fin
  replace hown : s.vm.findClass "jdk/internal/util/ArraysSupport" = some m.cls := hown
  replace hml : 6 = c.maxLocals := hml.symm
  refine own_step (fun tq kq => castTop (ef_rmH4 m (1 : Int32) ct (0 : Int32) (2 : Int32)) kq) ?_
  refine own_iloadN X hx hby jd_48_9__0 rfl (pc' := 1) rfl ?_
  refine own_iloadN X hx hby jd_48_9__1 rfl (pc' := 2) rfl ?_
  refine own_iadd X hx hby jd_48_9__2 (pc' := 3) rfl ?_
  show GoP p e below Φ (T.setTop (mkF m 3 #[.val (.int (1 : Int32)), .val (.ref ct), .val (.int (0 : Int32)), .val (.int (2 : Int32)), .unset, .unset] [(.int (2 : Int32))]))
  refine own_istore X hx hby jd_48_9__3  (Ls' := #[.val (.int (1 : Int32)), .val (.ref ct), .val (.int (0 : Int32)), .val (.int (2 : Int32)), .val (.int (2 : Int32)), .unset]) rfl (pc' := 5) rfl ?_
  refine own_iloadN X hx hby jd_48_9__5 rfl (pc' := 6) rfl ?_
  refine own_istore X hx hby jd_48_9__6  (Ls' := #[.val (.int (1 : Int32)), .val (.ref ct), .val (.int (0 : Int32)), .val (.int (2 : Int32)), .val (.int (2 : Int32)), .val (.int (0 : Int32))]) rfl (pc' := 8) rfl ?_
  refine own_iload X hx hby jd_48_9__8 rfl (pc' := 10) rfl ?_
  refine own_iload X hx hby jd_48_9__10 rfl (pc' := 12) rfl ?_
  refine own_icmpN X hx hby jd_48_9__12 (tlt (by decide)).2.1 (pc' := 15) rfl ?_
  refine own_bipush X hx hby jd_48_9__15 (v := (31 : Int32)) rfl (pc' := 17) rfl ?_
  refine own_iloadN X hx hby jd_48_9__17 rfl (pc' := 18) rfl ?_
  refine own_imul X hx hby jd_48_9__18 (pc' := 19) rfl ?_
  show GoP p e below Φ (T.setTop (mkF m 19 #[.val (.int (1 : Int32)), .val (.ref ct), .val (.int (0 : Int32)), .val (.int (2 : Int32)), .val (.int (2 : Int32)), .val (.int (0 : Int32))] [(.int (31 : Int32))]))
  refine own_aloadN X hx hby jd_48_9__19 rfl rfl (pc' := 20) rfl ?_
  refine own_iload X hx hby jd_48_9__20 rfl (pc' := 22) rfl ?_
  refine own_iaload X hx hby hZ eT V (by decide) (v := (.int x)) rfl jd_48_9__22 (pc' := 23) rfl ?_
  refine own_iadd X hx hby jd_48_9__23 (pc' := 24) rfl ?_
  refine own_istoreN X hx hby jd_48_9__24  (Ls' := #[.val (.int ((31 : Int32) + x)), .val (.ref ct), .val (.int (0 : Int32)), .val (.int (2 : Int32)), .val (.int (2 : Int32)), .val (.int (0 : Int32))]) rfl (pc' := 25) rfl ?_
  refine own_iinc X hx hby jd_48_9__25 rfl (v := (1 : Int32)) rfl (Ls' := #[.val (.int ((31 : Int32) + x)), .val (.ref ct), .val (.int (0 : Int32)), .val (.int (2 : Int32)), .val (.int (2 : Int32)), .val (.int (1 : Int32))]) rfl (pc' := 28) rfl ?_
  refine own_goto X hx hby jd_48_9__28 (by decide) (pc' := 8) (by decide) ?_
  refine own_iload X hx hby jd_48_9__8 rfl (pc' := 10) rfl ?_
  refine own_iload X hx hby jd_48_9__10 rfl (pc' := 12) rfl ?_
  refine own_icmpN X hx hby jd_48_9__12 (tlt (by decide)).2.1 (pc' := 15) rfl ?_
  refine own_bipush X hx hby jd_48_9__15 (v := (31 : Int32)) rfl (pc' := 17) rfl ?_
  refine own_iloadN X hx hby jd_48_9__17 rfl (pc' := 18) rfl ?_
  refine own_imul X hx hby jd_48_9__18 (pc' := 19) rfl ?_
  refine own_aloadN X hx hby jd_48_9__19 rfl rfl (pc' := 20) rfl ?_
  refine own_iload X hx hby jd_48_9__20 rfl (pc' := 22) rfl ?_
  refine own_iaload X hx hby hZ eT V (by decide) (v := (.int y)) rfl jd_48_9__22 (pc' := 23) rfl ?_
  refine own_iadd X hx hby jd_48_9__23 (pc' := 24) rfl ?_
  refine own_istoreN X hx hby jd_48_9__24  (Ls' := #[.val (.int (((31 : Int32) * ((31 : Int32) + x)) + y)), .val (.ref ct), .val (.int (0 : Int32)), .val (.int (2 : Int32)), .val (.int (2 : Int32)), .val (.int (1 : Int32))]) rfl (pc' := 25) rfl ?_
  refine own_iinc X hx hby jd_48_9__25 rfl (v := (1 : Int32)) rfl (Ls' := #[.val (.int (((31 : Int32) * ((31 : Int32) + x)) + y)), .val (.ref ct), .val (.int (0 : Int32)), .val (.int (2 : Int32)), .val (.int (2 : Int32)), .val (.int (2 : Int32))]) rfl (pc' := 28) rfl ?_
  refine own_goto X hx hby jd_48_9__28 (by decide) (pc' := 8) (by decide) ?_
  refine own_iload X hx hby jd_48_9__8 rfl (pc' := 10) rfl ?_
  refine own_iload X hx hby jd_48_9__10 rfl (pc' := 12) rfl ?_
  refine own_icmpY X hx hby jd_48_9__12 (flt (by decide)).2.1 (by decide) (pc' := 31) (by decide) ?_
  refine own_iloadN X hx hby jd_48_9__31 rfl (pc' := 32) rfl ?_
  exact own_retI X hx hby fin hret jd_48_9__32 (by decide) (by decide) ⟨_, rfl, rfl, eT⟩
theorem ef_rmVH (m : MethodId) (x0 : Addr) (x1 : Int32) (x2 : Int32) (x3 : Int32) (x4 : Int32) : entryFrame m #[(.ref x0), (.int x1), (.int x2), (.int x3), (.int x4)] 5 = mkF m 0 #[.val (.ref x0), .val (.int x1), .val (.int x2), .val (.int x3), .val (.int x4)] [] := by first | (simp [entryFrame, mkF, argsToLocals, Value.category]; done) | rfl
theorem jd_48_4__0 : decode jdk_48_method_4_code 0 = .ok (.iload 4, 2) := by decide +kernel
theorem jd_48_4__2 : decode jdk_48_method_4_code 2 = .ok (.tableswitch 127 4 10 #[42, 55, 127, 127, 88, 101, 114], 42) := by decide +kernel
theorem jd_48_4__116 : decode jdk_48_method_4_code 116 = .ok (.iload_n 3, 1) := by decide +kernel
theorem jd_48_4__117 : decode jdk_48_method_4_code 117 = .ok (.aload_n 0, 1) := by decide +kernel
theorem jd_48_4__118 : decode jdk_48_method_4_code 118 = .ok (.checkcast 82, 3) := by decide +kernel
theorem jd_48_4__121 : decode jdk_48_method_4_code 121 = .ok (.iload_n 1, 1) := by decide +kernel
theorem jd_48_4__122 : decode jdk_48_method_4_code 122 = .ok (.iload_n 2, 1) := by decide +kernel
theorem jd_48_4__123 : decode jdk_48_method_4_code 123 = .ok (.invokestatic 84, 3) := by decide +kernel
theorem pd__I_III_I : parseMethodDescriptor "(I[III)I" = some ⟨[.int, (.array .int), .int, .int], some .int⟩ := by decide +kernel
theorem jd_48_4__126 : decode jdk_48_method_4_code 126 = .ok (.goto 31, 3) := by decide +kernel
theorem jd_48_4__157 : decode jdk_48_method_4_code 157 = .ok (.ireturn, 1) := by decide +kernel
set_option maxRecDepth 65536 in
set_option maxHeartbeats 40000000 in
theorem rmVH (l : Launch) (Z : State) (a0 : Array Value) (hw : ∀ d ∈ tables_1, d.before a0 Z = true) (ct : Addr) (x y : Int32) (h0 : Heap) (E : Exa Z h0 ct "[I") (V : AV Z h0 ct .int [.int x, .int y]) : Con l Z (⟨"jdk/internal/util/ArraysSupport", "vectorizedHashCode", "(Ljava/lang/Object;IIII)I"⟩ : MethodName) jdk_48_method_4_code 5 (some .int) [] ({ frames := 1, cells := 0, slots := 0, locals := 24 } : Room) #[(.ref ct), (.int (0 : Int32)), (.int (2 : Int32)), (.int (1 : Int32)), (.int (10 : Int32))] h0 (fun v h L => ∃ r : Int32, v = some (.int r) ∧ L = [] ∧ h = h0) := by
  refine Con.of (plainFor_of_name pn_jdk_internal_util_ArraysSupport) ?_
  intro p e s m below meth c T X hx hby hml hown hnm hret eT hZ hsh Φ fin
  replace hown : s.vm.findClass "jdk/internal/util/ArraysSupport" = some m.cls := hown
  replace hml : 5 = c.maxLocals := hml.symm
  refine own_step (fun tq kq => castTop (ef_rmVH m ct (0 : Int32) (2 : Int32) (1 : Int32) (10 : Int32)) kq) ?_
  refine own_iload X hx hby jd_48_4__0 rfl (pc' := 2) rfl ?_
  refine own_tsw X hx hby jd_48_4__2 (by decide) (o := 114) (by decide) (by decide) (pc' := 116) (by decide) ?_
  refine own_iloadN X hx hby jd_48_4__116 rfl (pc' := 117) rfl ?_
  refine own_aloadN X hx hby jd_48_4__117 rfl rfl (pc' := 118) rfl ?_
  obtain ⟨T1, X1, e1, st1⟩ := castY X hx hZ hown (own_w hw 46 rfl) eT (Ins.self E) (g := (mkF m 118 #[.val (.ref ct), .val (.int (0 : Int32)), .val (.int (2 : Int32)), .val (.int (1 : Int32)), .val (.int (10 : Int32))] [(.ref ct), (.int (1 : Int32))])) rfl rfl (hb hby jd_48_4__118)
  refine own_step st1 ?_
  show GoP p e below Φ (T1.setTop (mkF m 121 #[.val (.ref ct), .val (.int (0 : Int32)), .val (.int (2 : Int32)), .val (.int (1 : Int32)), .val (.int (10 : Int32))] [(.ref ct), (.int (1 : Int32))]))
  refine own_iloadN X1 hx hby jd_48_4__121 rfl (pc' := 122) rfl ?_
  refine own_iloadN X1 hx hby jd_48_4__122 rfl (pc' := 123) rfl ?_
  refine own_callS X1 hx hby hZ (by exact hml) hown (own_w hw 47 rfl) (own_w hw 48 rfl) (own_w hw 44 rfl) (own_w hw 49 rfl) (by decide) e1 0 (by decide) (by decide) (by decide) (by decide) (argsL := [(.int (1 : Int32)), (.ref ct), (.int (0 : Int32)), (.int (2 : Int32))]) (rest := []) (lenOf pd__I_III_I rfl) rfl (rmH4 l Z a0 hw ct x y h0 V) (Nat.le_of_eq rfl) jd_48_4__123 (pc' := 126) rfl ?_
  intro v2 T2 L2 X2 hQ2
  obtain ⟨r2, rfl, rfl, e2⟩ := hQ2
  rw [List.append_nil] at X2
  replace e2 : T2.heap = h0 := e2
  show GoP p e below Φ (T2.setTop (mkF m 126 #[.val (.ref ct), .val (.int (0 : Int32)), .val (.int (2 : Int32)), .val (.int (1 : Int32)), .val (.int (10 : Int32))] [(.int r2)]))
  refine own_goto X2 hx hby jd_48_4__126 (by decide) (pc' := 157) (by decide) ?_
  exact own_retI X2 hx hby fin hret jd_48_4__157 (by decide) (by decide) ⟨_, rfl, rfl, e2⟩
theorem ef_rmHC (m : MethodId) (x0 : Addr) : entryFrame m #[(.ref x0)] 1 = mkF m 0 #[.val (.ref x0)] [] := by first | (simp [entryFrame, mkF, argsToLocals, Value.category]; done) | rfl
theorem pn_java_util_Arrays : plainName "java/util/Arrays" = true := by first | (simp [plainName, overriddenIn]; done) | decide +kernel
theorem jd_65_150__0 : decode jdk_65_method_150_code 0 = .ok (.aload_n 0, 1) := by decide +kernel
theorem jd_65_150__1 : decode jdk_65_method_150_code 1 = .ok (.ifnonnull 5, 3) := by decide +kernel
theorem jd_65_150__6 : decode jdk_65_method_150_code 6 = .ok (.aload_n 0, 1) := by decide +kernel
theorem jd_65_150__7 : decode jdk_65_method_150_code 7 = .ok (.arraylength, 1) := by decide +kernel
theorem jd_65_150__8 : decode jdk_65_method_150_code 8 = .ok (.lookupswitch 41 #[(0, 28), (1, 32)], 28) := by decide +kernel
theorem jd_65_150__49 : decode jdk_65_method_150_code 49 = .ok (.aload_n 0, 1) := by decide +kernel
theorem jd_65_150__50 : decode jdk_65_method_150_code 50 = .ok (.iconst 0, 1) := by decide +kernel
theorem jd_65_150__51 : decode jdk_65_method_150_code 51 = .ok (.aload_n 0, 1) := by decide +kernel
theorem jd_65_150__52 : decode jdk_65_method_150_code 52 = .ok (.arraylength, 1) := by decide +kernel
theorem jd_65_150__53 : decode jdk_65_method_150_code 53 = .ok (.iconst 1, 1) := by decide +kernel
theorem jd_65_150__54 : decode jdk_65_method_150_code 54 = .ok (.bipush 10, 2) := by decide +kernel
theorem jd_65_150__56 : decode jdk_65_method_150_code 56 = .ok (.invokestatic 379, 3) := by decide +kernel
theorem pd__Ljava_lang_Object_IIII_I : parseMethodDescriptor "(Ljava/lang/Object;IIII)I" = some ⟨[(.object "java/lang/Object"), .int, .int, .int, .int], some .int⟩ := by decide +kernel
theorem jd_65_150__59 : decode jdk_65_method_150_code 59 = .ok (.ireturn, 1) := by decide +kernel
set_option maxRecDepth 65536 in
set_option maxHeartbeats 40000000 in
theorem rmHC (l : Launch) (Z : State) (a0 : Array Value) (hw : ∀ d ∈ tables_1, d.before a0 Z = true) (ct : Addr) (x y : Int32) (h0 : Heap) (E : Exa Z h0 ct "[I") (V : AV Z h0 ct .int [.int x, .int y]) : Con l Z (⟨"java/util/Arrays", "hashCode", "([I)I"⟩ : MethodName) jdk_65_method_150_code 1 (some .int) [] ({ frames := 2, cells := 0, slots := 0, locals := 44 } : Room) #[(.ref ct)] h0 (fun v h L => ∃ r : Int32, v = some (.int r) ∧ L = [] ∧ h = h0) := by
  refine Con.of (plainFor_of_name pn_java_util_Arrays) ?_
  intro p e s m below meth c T X hx hby hml hown hnm hret eT hZ hsh Φ fin
  replace hown : s.vm.findClass "java/util/Arrays" = some m.cls := hown
  replace hml : 1 = c.maxLocals := hml.symm
  refine own_step (fun tq kq => castTop (ef_rmHC m ct) kq) ?_
  refine own_aloadN X hx hby jd_65_150__0 rfl rfl (pc' := 1) rfl ?_
  refine own_ifnonnullY X hx hby jd_65_150__1 (by decide) (pc' := 6) (by decide) ?_
  refine own_aloadN X hx hby jd_65_150__6 rfl rfl (pc' := 7) rfl ?_
  refine own_alen X hx hby hZ eT (n := (2 : Int32)) V rfl jd_65_150__7 (pc' := 8) rfl ?_
  refine own_lswD X hx hby jd_65_150__8 (by decide) (by decide) (by decide) (pc' := 49) (by decide) ?_
  refine own_aloadN X hx hby jd_65_150__49 rfl rfl (pc' := 50) rfl ?_
  refine own_iconst X hx hby jd_65_150__50 (v := (0 : Int32)) rfl (pc' := 51) rfl ?_
  refine own_aloadN X hx hby jd_65_150__51 rfl rfl (pc' := 52) rfl ?_
  refine own_alen X hx hby hZ eT (n := (2 : Int32)) V rfl jd_65_150__52 (pc' := 53) rfl ?_
  refine own_iconst X hx hby jd_65_150__53 (v := (1 : Int32)) rfl (pc' := 54) rfl ?_
  refine own_bipush X hx hby jd_65_150__54 (v := (10 : Int32)) rfl (pc' := 56) rfl ?_
  refine own_callS X hx hby hZ (by exact hml) hown (own_w hw 42 rfl) (own_w hw 43 rfl) (own_w hw 44 rfl) (own_w hw 45 rfl) (by decide) eT 0 (by decide) (by decide) (by decide) (by decide) (argsL := [(.ref ct), (.int (0 : Int32)), (.int (2 : Int32)), (.int (1 : Int32)), (.int (10 : Int32))]) (rest := []) (lenOf pd__Ljava_lang_Object_IIII_I rfl) rfl (rmVH l Z a0 hw ct x y h0 E V) (Nat.le_of_eq rfl) jd_65_150__56 (pc' := 59) rfl ?_
  intro v1 T1 L1 X1 hQ1
  obtain ⟨r1, rfl, rfl, e1⟩ := hQ1
  rw [List.append_nil] at X1
  replace e1 : T1.heap = h0 := e1
  show GoP p e below Φ (T1.setTop (mkF m 59 #[.val (.ref ct)] [(.int r1)]))
  exact own_retI X1 hx hby fin hret jd_65_150__59 (by decide) (by decide) ⟨_, rfl, rfl, e1⟩
theorem ef_rmP31 (m : MethodId) (x0 : Int32) : entryFrame m #[(.int x0)] 4 = mkF m 0 #[.val (.int x0), .unset, .unset, .unset] [] := by first | (simp [entryFrame, mkF, argsToLocals, Value.category]; done) | rfl
theorem d_38_19__0 : decode prog_38_method_19_code 0 = .ok (.iconst 1, 1) := by decide +kernel
theorem d_38_19__1 : decode prog_38_method_19_code 1 = .ok (.istore_n 1, 1) := by decide +kernel
theorem d_38_19__2 : decode prog_38_method_19_code 2 = .ok (.bipush 31, 2) := by decide +kernel
theorem d_38_19__4 : decode prog_38_method_19_code 4 = .ok (.istore_n 2, 1) := by decide +kernel
theorem d_38_19__5 : decode prog_38_method_19_code 5 = .ok (.iload_n 0, 1) := by decide +kernel
theorem d_38_19__6 : decode prog_38_method_19_code 6 = .ok (.istore_n 3, 1) := by decide +kernel
theorem d_38_19__7 : decode prog_38_method_19_code 7 = .ok (.iload_n 3, 1) := by decide +kernel
theorem d_38_19__8 : decode prog_38_method_19_code 8 = .ok (.ifCond .le 24, 3) := by decide +kernel
theorem d_38_19__11 : decode prog_38_method_19_code 11 = .ok (.iload_n 3, 1) := by decide +kernel
theorem d_38_19__12 : decode prog_38_method_19_code 12 = .ok (.iconst 1, 1) := by decide +kernel
theorem d_38_19__13 : decode prog_38_method_19_code 13 = .ok (.iand, 1) := by decide +kernel
theorem d_38_19__14 : decode prog_38_method_19_code 14 = .ok (.ifCond .eq 7, 3) := by decide +kernel
theorem d_38_19__21 : decode prog_38_method_19_code 21 = .ok (.iload_n 2, 1) := by decide +kernel
theorem d_38_19__22 : decode prog_38_method_19_code 22 = .ok (.iload_n 2, 1) := by decide +kernel
theorem d_38_19__23 : decode prog_38_method_19_code 23 = .ok (.imul, 1) := by decide +kernel
theorem d_38_19__24 : decode prog_38_method_19_code 24 = .ok (.istore_n 2, 1) := by decide +kernel
theorem d_38_19__25 : decode prog_38_method_19_code 25 = .ok (.iload_n 3, 1) := by decide +kernel
theorem d_38_19__26 : decode prog_38_method_19_code 26 = .ok (.iconst 1, 1) := by decide +kernel
theorem d_38_19__27 : decode prog_38_method_19_code 27 = .ok (.ishr, 1) := by decide +kernel
theorem d_38_19__28 : decode prog_38_method_19_code 28 = .ok (.istore_n 3, 1) := by decide +kernel
theorem d_38_19__29 : decode prog_38_method_19_code 29 = .ok (.goto (-22), 3) := by decide +kernel
theorem d_38_19__17 : decode prog_38_method_19_code 17 = .ok (.iload_n 1, 1) := by decide +kernel
theorem d_38_19__18 : decode prog_38_method_19_code 18 = .ok (.iload_n 2, 1) := by decide +kernel
theorem d_38_19__19 : decode prog_38_method_19_code 19 = .ok (.imul, 1) := by decide +kernel
theorem d_38_19__20 : decode prog_38_method_19_code 20 = .ok (.istore_n 1, 1) := by decide +kernel
theorem d_38_19__32 : decode prog_38_method_19_code 32 = .ok (.iload_n 1, 1) := by decide +kernel
theorem d_38_19__33 : decode prog_38_method_19_code 33 = .ok (.ireturn, 1) := by decide +kernel
set_option maxRecDepth 65536 in
set_option maxHeartbeats 40000000 in
theorem rmP31 (l : Launch) (Z : State) (a0 : Array Value) (hw : ∀ d ∈ tables_1, d.before a0 Z = true)  (h0 : Heap)  : Con l Z (⟨"com/example/tracemass/tracemass/nets/Marking", "power31", "(I)I"⟩ : MethodName) prog_38_method_19_code 4 (some .int) [] ({ frames := 0, cells := 0, slots := 0, locals := 0 } : Room) #[(.int (2 : Int32))] h0 (fun v h L => v = some (.int (961 : Int32)) ∧ L = [] ∧ h = h0) := by
  refine Con.of (plainFor_of_name pn_com_example_tracemass_tracemass_nets_Marking) ?_
  intro p e s m below meth c T X hx hby hml hown hnm hret eT hZ hsh Φ fin
  replace hown : s.vm.findClass "com/example/tracemass/tracemass/nets/Marking" = some m.cls := hown
  replace hml : 4 = c.maxLocals := hml.symm
  refine own_step (fun tq kq => castTop (ef_rmP31 m (2 : Int32)) kq) ?_
  refine own_iconst X hx hby d_38_19__0 (v := (1 : Int32)) rfl (pc' := 1) rfl ?_
  refine own_istoreN X hx hby d_38_19__1  (Ls' := #[.val (.int (2 : Int32)), .val (.int (1 : Int32)), .unset, .unset]) rfl (pc' := 2) rfl ?_
  refine own_bipush X hx hby d_38_19__2 (v := (31 : Int32)) rfl (pc' := 4) rfl ?_
  refine own_istoreN X hx hby d_38_19__4  (Ls' := #[.val (.int (2 : Int32)), .val (.int (1 : Int32)), .val (.int (31 : Int32)), .unset]) rfl (pc' := 5) rfl ?_
  refine own_iloadN X hx hby d_38_19__5 rfl (pc' := 6) rfl ?_
  refine own_istoreN X hx hby d_38_19__6  (Ls' := #[.val (.int (2 : Int32)), .val (.int (1 : Int32)), .val (.int (31 : Int32)), .val (.int (2 : Int32))]) rfl (pc' := 7) rfl ?_
  refine own_iloadN X hx hby d_38_19__7 rfl (pc' := 8) rfl ?_
  refine own_ifN X hx hby d_38_19__8 ((if0 _ _).trans (tlt (by decide)).2.2.2) (pc' := 11) rfl ?_
  refine own_iloadN X hx hby d_38_19__11 rfl (pc' := 12) rfl ?_
  refine own_iconst X hx hby d_38_19__12 (v := (1 : Int32)) rfl (pc' := 13) rfl ?_
  refine own_iand X hx hby d_38_19__13 (pc' := 14) rfl ?_
  show GoP p e below Φ (T.setTop (mkF m 14 #[.val (.int (2 : Int32)), .val (.int (1 : Int32)), .val (.int (31 : Int32)), .val (.int (2 : Int32))] [(.int (0 : Int32))]))
  refine own_ifY X hx hby d_38_19__14 ((if0 _ _).trans (teq (by decide)).1) (by decide) (pc' := 21) (by decide) ?_
  refine own_iloadN X hx hby d_38_19__21 rfl (pc' := 22) rfl ?_
  refine own_iloadN X hx hby d_38_19__22 rfl (pc' := 23) rfl ?_
  refine own_imul X hx hby d_38_19__23 (pc' := 24) rfl ?_
  show GoP p e below Φ (T.setTop (mkF m 24 #[.val (.int (2 : Int32)), .val (.int (1 : Int32)), .val (.int (31 : Int32)), .val (.int (2 : Int32))] [(.int (961 : Int32))]))
  refine own_istoreN X hx hby d_38_19__24  (Ls' := #[.val (.int (2 : Int32)), .val (.int (1 : Int32)), .val (.int (961 : Int32)), .val (.int (2 : Int32))]) rfl (pc' := 25) rfl ?_
  refine own_iloadN X hx hby d_38_19__25 rfl (pc' := 26) rfl ?_
  refine own_iconst X hx hby d_38_19__26 (v := (1 : Int32)) rfl (pc' := 27) rfl ?_
  refine own_ishr X hx hby d_38_19__27 (pc' := 28) rfl ?_
  show GoP p e below Φ (T.setTop (mkF m 28 #[.val (.int (2 : Int32)), .val (.int (1 : Int32)), .val (.int (961 : Int32)), .val (.int (2 : Int32))] [(.int (1 : Int32))]))
  refine own_istoreN X hx hby d_38_19__28  (Ls' := #[.val (.int (2 : Int32)), .val (.int (1 : Int32)), .val (.int (961 : Int32)), .val (.int (1 : Int32))]) rfl (pc' := 29) rfl ?_
  refine own_goto X hx hby d_38_19__29 (by decide) (pc' := 7) (by decide) ?_
  refine own_iloadN X hx hby d_38_19__7 rfl (pc' := 8) rfl ?_
  refine own_ifN X hx hby d_38_19__8 ((if0 _ _).trans (tlt (by decide)).2.2.2) (pc' := 11) rfl ?_
  refine own_iloadN X hx hby d_38_19__11 rfl (pc' := 12) rfl ?_
  refine own_iconst X hx hby d_38_19__12 (v := (1 : Int32)) rfl (pc' := 13) rfl ?_
  refine own_iand X hx hby d_38_19__13 (pc' := 14) rfl ?_
  show GoP p e below Φ (T.setTop (mkF m 14 #[.val (.int (2 : Int32)), .val (.int (1 : Int32)), .val (.int (961 : Int32)), .val (.int (1 : Int32))] [(.int (1 : Int32))]))
  refine own_ifN X hx hby d_38_19__14 ((if0 _ _).trans (feq (by decide)).1) (pc' := 17) rfl ?_
  refine own_iloadN X hx hby d_38_19__17 rfl (pc' := 18) rfl ?_
  refine own_iloadN X hx hby d_38_19__18 rfl (pc' := 19) rfl ?_
  refine own_imul X hx hby d_38_19__19 (pc' := 20) rfl ?_
  show GoP p e below Φ (T.setTop (mkF m 20 #[.val (.int (2 : Int32)), .val (.int (1 : Int32)), .val (.int (961 : Int32)), .val (.int (1 : Int32))] [(.int (961 : Int32))]))
  refine own_istoreN X hx hby d_38_19__20  (Ls' := #[.val (.int (2 : Int32)), .val (.int (961 : Int32)), .val (.int (961 : Int32)), .val (.int (1 : Int32))]) rfl (pc' := 21) rfl ?_
  refine own_iloadN X hx hby d_38_19__21 rfl (pc' := 22) rfl ?_
  refine own_iloadN X hx hby d_38_19__22 rfl (pc' := 23) rfl ?_
  refine own_imul X hx hby d_38_19__23 (pc' := 24) rfl ?_
  show GoP p e below Φ (T.setTop (mkF m 24 #[.val (.int (2 : Int32)), .val (.int (961 : Int32)), .val (.int (961 : Int32)), .val (.int (1 : Int32))] [(.int (923521 : Int32))]))
  refine own_istoreN X hx hby d_38_19__24  (Ls' := #[.val (.int (2 : Int32)), .val (.int (961 : Int32)), .val (.int (923521 : Int32)), .val (.int (1 : Int32))]) rfl (pc' := 25) rfl ?_
  refine own_iloadN X hx hby d_38_19__25 rfl (pc' := 26) rfl ?_
  refine own_iconst X hx hby d_38_19__26 (v := (1 : Int32)) rfl (pc' := 27) rfl ?_
  refine own_ishr X hx hby d_38_19__27 (pc' := 28) rfl ?_
  show GoP p e below Φ (T.setTop (mkF m 28 #[.val (.int (2 : Int32)), .val (.int (961 : Int32)), .val (.int (923521 : Int32)), .val (.int (1 : Int32))] [(.int (0 : Int32))]))
  refine own_istoreN X hx hby d_38_19__28  (Ls' := #[.val (.int (2 : Int32)), .val (.int (961 : Int32)), .val (.int (923521 : Int32)), .val (.int (0 : Int32))]) rfl (pc' := 29) rfl ?_
  refine own_goto X hx hby d_38_19__29 (by decide) (pc' := 7) (by decide) ?_
  refine own_iloadN X hx hby d_38_19__7 rfl (pc' := 8) rfl ?_
  refine own_ifY X hx hby d_38_19__8 ((if0 _ _).trans (flt (by decide)).2.2.2) (by decide) (pc' := 32) (by decide) ?_
  refine own_iloadN X hx hby d_38_19__32 rfl (pc' := 33) rfl ?_
  exact own_retI X hx hby fin hret d_38_19__33 (by decide) (by decide) ⟨rfl, rfl, eT⟩
theorem ef_rmSH (m : MethodId) (x0 : Int32) (x1 : Addr) (x2 : Addr) : entryFrame m #[(.int x0), (.ref x1), (.ref x2)] 6 = mkF m 0 #[.val (.int x0), .val (.ref x1), .val (.ref x2), .unset, .unset, .unset] [] := by first | (simp [entryFrame, mkF, argsToLocals, Value.category]; done) | rfl
theorem d_38_18__0 : decode prog_38_method_18_code 0 = .ok (.iconst 1, 1) := by decide +kernel
theorem d_38_18__1 : decode prog_38_method_18_code 1 = .ok (.istore_n 3, 1) := by decide +kernel
theorem d_38_18__2 : decode prog_38_method_18_code 2 = .ok (.iconst 0, 1) := by decide +kernel
theorem d_38_18__3 : decode prog_38_method_18_code 3 = .ok (.istore 4, 2) := by decide +kernel
theorem d_38_18__5 : decode prog_38_method_18_code 5 = .ok (.iconst 0, 1) := by decide +kernel
theorem d_38_18__6 : decode prog_38_method_18_code 6 = .ok (.istore 5, 2) := by decide +kernel
theorem d_38_18__8 : decode prog_38_method_18_code 8 = .ok (.iload 5, 2) := by decide +kernel
theorem d_38_18__10 : decode prog_38_method_18_code 10 = .ok (.aload_n 1, 1) := by decide +kernel
theorem d_38_18__11 : decode prog_38_method_18_code 11 = .ok (.arraylength, 1) := by decide +kernel
theorem d_38_18__12 : decode prog_38_method_18_code 12 = .ok (.if_icmp .ge 37, 3) := by decide +kernel
theorem d_38_18__49 : decode prog_38_method_18_code 49 = .ok (.iload_n 3, 1) := by decide +kernel
theorem d_38_18__50 : decode prog_38_method_18_code 50 = .ok (.iload_n 0, 1) := by decide +kernel
theorem d_38_18__51 : decode prog_38_method_18_code 51 = .ok (.iload 4, 2) := by decide +kernel
theorem d_38_18__53 : decode prog_38_method_18_code 53 = .ok (.isub, 1) := by decide +kernel
theorem d_38_18__54 : decode prog_38_method_18_code 54 = .ok (.invokestatic 118, 3) := by decide +kernel
theorem d_38_18__57 : decode prog_38_method_18_code 57 = .ok (.imul, 1) := by decide +kernel
theorem d_38_18__58 : decode prog_38_method_18_code 58 = .ok (.ireturn, 1) := by decide +kernel
set_option maxRecDepth 65536 in
set_option maxHeartbeats 40000000 in
theorem rmSH (l : Launch) (Z : State) (a0 : Array Value) (hw : ∀ d ∈ tables_1, d.before a0 Z = true) (ma ct : Addr) (h0 : Heap) (V : AV Z h0 ma .int []) : Con l Z (⟨"com/example/tracemass/tracemass/nets/Marking", "sparseHash", "(I[I[I)I"⟩ : MethodName) prog_38_method_18_code 6 (some .int) [] ({ frames := 1, cells := 0, slots := 0, locals := 20 } : Room) #[(.int (2 : Int32)), (.ref ma), (.ref ct)] h0 (fun v h L => v = some (.int (961 : Int32)) ∧ L = [] ∧ h = h0) := by
  refine Con.of (plainFor_of_name pn_com_example_tracemass_tracemass_nets_Marking) ?_
  intro p e s m below meth c T X hx hby hml hown hnm hret eT hZ hsh Φ fin
  replace hown : s.vm.findClass "com/example/tracemass/tracemass/nets/Marking" = some m.cls := hown
  replace hml : 6 = c.maxLocals := hml.symm
  refine own_step (fun tq kq => castTop (ef_rmSH m (2 : Int32) ma ct) kq) ?_
  refine own_iconst X hx hby d_38_18__0 (v := (1 : Int32)) rfl (pc' := 1) rfl ?_
  refine own_istoreN X hx hby d_38_18__1  (Ls' := #[.val (.int (2 : Int32)), .val (.ref ma), .val (.ref ct), .val (.int (1 : Int32)), .unset, .unset]) rfl (pc' := 2) rfl ?_
  refine own_iconst X hx hby d_38_18__2 (v := (0 : Int32)) rfl (pc' := 3) rfl ?_
  refine own_istore X hx hby d_38_18__3  (Ls' := #[.val (.int (2 : Int32)), .val (.ref ma), .val (.ref ct), .val (.int (1 : Int32)), .val (.int (0 : Int32)), .unset]) rfl (pc' := 5) rfl ?_
  refine own_iconst X hx hby d_38_18__5 (v := (0 : Int32)) rfl (pc' := 6) rfl ?_
  refine own_istore X hx hby d_38_18__6  (Ls' := #[.val (.int (2 : Int32)), .val (.ref ma), .val (.ref ct), .val (.int (1 : Int32)), .val (.int (0 : Int32)), .val (.int (0 : Int32))]) rfl (pc' := 8) rfl ?_
  refine own_iload X hx hby d_38_18__8 rfl (pc' := 10) rfl ?_
  refine own_aloadN X hx hby d_38_18__10 rfl rfl (pc' := 11) rfl ?_
  refine own_alen X hx hby hZ eT (n := (0 : Int32)) V rfl d_38_18__11 (pc' := 12) rfl ?_
  refine own_icmpY X hx hby d_38_18__12 (flt (by decide)).2.1 (by decide) (pc' := 49) (by decide) ?_
  refine own_iloadN X hx hby d_38_18__49 rfl (pc' := 50) rfl ?_
  refine own_iloadN X hx hby d_38_18__50 rfl (pc' := 51) rfl ?_
  refine own_iload X hx hby d_38_18__51 rfl (pc' := 53) rfl ?_
  refine own_isub X hx hby d_38_18__53 (pc' := 54) rfl ?_
  show GoP p e below Φ (T.setTop (mkF m 54 #[.val (.int (2 : Int32)), .val (.ref ma), .val (.ref ct), .val (.int (1 : Int32)), .val (.int (0 : Int32)), .val (.int (0 : Int32))] [(.int (2 : Int32)), (.int (1 : Int32))]))
  refine own_callS X hx hby hZ (by exact hml) hown (own_w hw 219 rfl) (own_w hw 220 rfl) (own_w hw 4 rfl) (own_w hw 221 rfl) (by decide) eT 1 (by decide) (by decide) (by decide) (by decide) (argsL := [(.int (2 : Int32))]) (rest := [(.int (1 : Int32))]) (lenOf pd__I_I rfl) rfl (rmP31 l Z a0 hw h0) (Nat.le_of_eq rfl) d_38_18__54 (pc' := 57) rfl ?_
  intro v1 T1 L1 X1 hQ1
  obtain ⟨rfl, rfl, e1⟩ := hQ1
  rw [List.append_nil] at X1
  replace e1 : T1.heap = h0 := e1
  show GoP p e below Φ (T1.setTop (mkF m 57 #[.val (.int (2 : Int32)), .val (.ref ma), .val (.ref ct), .val (.int (1 : Int32)), .val (.int (0 : Int32)), .val (.int (0 : Int32))] [(.int (961 : Int32)), (.int (1 : Int32))]))
  refine own_imul X1 hx hby d_38_18__57 (pc' := 58) rfl ?_
  show GoP p e below Φ (T1.setTop (mkF m 58 #[.val (.int (2 : Int32)), .val (.ref ma), .val (.ref ct), .val (.int (1 : Int32)), .val (.int (0 : Int32)), .val (.int (0 : Int32))] [(.int (961 : Int32))]))
  exact own_retI X1 hx hby fin hret d_38_18__58 (by decide) (by decide) ⟨rfl, rfl, e1⟩
theorem ef_rmMI (m : MethodId) (x0 : Addr) (x1 : Int32) (x3 : Addr) (x4 : Int32) : entryFrame m #[(.ref x0), (.int x1), .null, (.ref x3), (.int x4)] 5 = mkF m 0 #[.val (.ref x0), .val (.int x1), .val .null, .val (.ref x3), .val (.int x4)] [] := by first | (simp [entryFrame, mkF, argsToLocals, Value.category]; done) | rfl
theorem d_38_1__0 : decode prog_38_method_1_code 0 = .ok (.aload_n 0, 1) := by decide +kernel
theorem d_38_1__1 : decode prog_38_method_1_code 1 = .ok (.invokespecial 1, 3) := by decide +kernel
theorem d_38_1__4 : decode prog_38_method_1_code 4 = .ok (.aload_n 0, 1) := by decide +kernel
theorem d_38_1__5 : decode prog_38_method_1_code 5 = .ok (.iload_n 1, 1) := by decide +kernel
theorem d_38_1__6 : decode prog_38_method_1_code 6 = .ok (.putfield 7, 3) := by decide +kernel
theorem d_38_1__9 : decode prog_38_method_1_code 9 = .ok (.aload_n 0, 1) := by decide +kernel
theorem d_38_1__10 : decode prog_38_method_1_code 10 = .ok (.aload_n 2, 1) := by decide +kernel
theorem d_38_1__11 : decode prog_38_method_1_code 11 = .ok (.putfield 13, 3) := by decide +kernel
theorem d_38_1__14 : decode prog_38_method_1_code 14 = .ok (.aload_n 0, 1) := by decide +kernel
theorem d_38_1__15 : decode prog_38_method_1_code 15 = .ok (.aload_n 3, 1) := by decide +kernel
theorem d_38_1__16 : decode prog_38_method_1_code 16 = .ok (.putfield 17, 3) := by decide +kernel
theorem d_38_1__19 : decode prog_38_method_1_code 19 = .ok (.aload_n 0, 1) := by decide +kernel
theorem d_38_1__20 : decode prog_38_method_1_code 20 = .ok (.iload 4, 2) := by decide +kernel
theorem d_38_1__22 : decode prog_38_method_1_code 22 = .ok (.putfield 20, 3) := by decide +kernel
theorem d_38_1__25 : decode prog_38_method_1_code 25 = .ok (.aload_n 0, 1) := by decide +kernel
theorem d_38_1__26 : decode prog_38_method_1_code 26 = .ok (.aload_n 2, 1) := by decide +kernel
theorem d_38_1__27 : decode prog_38_method_1_code 27 = .ok (.ifnonnull 10, 3) := by decide +kernel
theorem d_38_1__30 : decode prog_38_method_1_code 30 = .ok (.aload_n 3, 1) := by decide +kernel
theorem d_38_1__31 : decode prog_38_method_1_code 31 = .ok (.invokestatic 23, 3) := by decide +kernel
theorem pd___I_I : parseMethodDescriptor "([I)I" = some ⟨[(.array .int)], some .int⟩ := by decide +kernel
theorem d_38_1__34 : decode prog_38_method_1_code 34 = .ok (.goto 9, 3) := by decide +kernel
theorem d_38_1__43 : decode prog_38_method_1_code 43 = .ok (.putfield 33, 3) := by decide +kernel
theorem d_38_1__46 : decode prog_38_method_1_code 46 = .ok (.return_, 1) := by decide +kernel
set_option maxRecDepth 65536 in
set_option maxHeartbeats 40000000 in
theorem rmMI (l : Launch) (Z : State) (a0 : Array Value) (hw : ∀ d ∈ tables_1, d.before a0 Z = true) (a ct : Addr) (mc x y : Int32) (n0 : Nat) (h0 : Heap) (ne_ct : ct ≠ a) (E : Exa Z h0 ct "[I") (V : AV Z h0 ct .int [.int x, .int y])(n0_a : n0 ≤ a) (Ea : Exa Z h0 a "com/example/tracemass/tracemass/nets/Marking") (F_places : Fld Z h0 a "com/example/tracemass/tracemass/nets/Marking" "places" "I" (.int (0 : Int32))) (F_marked : Fld Z h0 a "com/example/tracemass/tracemass/nets/Marking" "marked" "[I" .null) (F_counts : Fld Z h0 a "com/example/tracemass/tracemass/nets/Marking" "counts" "[I" .null) (F_markedCount : Fld Z h0 a "com/example/tracemass/tracemass/nets/Marking" "markedCount" "I" (.int (0 : Int32))) (F_hash : Fld Z h0 a "com/example/tracemass/tracemass/nets/Marking" "hash" "I" (.int (0 : Int32))) : Con l Z (⟨"com/example/tracemass/tracemass/nets/Marking", "<init>", "(I[I[II)V"⟩ : MethodName) prog_38_method_1_code 5 none [] ({ frames := 3, cells := 0, slots := 0, locals := 60 } : Room) #[(.ref a), (.int (2 : Int32)), .null, (.ref ct), (.int mc)] h0 (fun v h L => v = none ∧ Fr n0 L ∧ Keep h0 h [a] ∧ Exa Z h a "com/example/tracemass/tracemass/nets/Marking" ∧ Fld Z h a "com/example/tracemass/tracemass/nets/Marking" "marked" "[I" .null ∧ Fld Z h a "com/example/tracemass/tracemass/nets/Marking" "counts" "[I" (.ref ct) ∧ Fld Z h a "com/example/tracemass/tracemass/nets/Marking" "markedCount" "I" (.int mc)) := by
  refine Con.of (plainFor_of_name pn_com_example_tracemass_tracemass_nets_Marking) ?_
  intro p e s m below meth c T X hx hby hml hown hnm hret eT hZ hsh Φ fin
  replace hown : s.vm.findClass "com/example/tracemass/tracemass/nets/Marking" = some m.cls := hown
  replace hml : 5 = c.maxLocals := hml.symm
  refine own_step (fun tq kq => castTop (ef_rmMI m a (2 : Int32) ct mc) kq) ?_
  have N0 := Fr.nil n0
  have K0 : Keep h0 h0 [a] := Keep.refl h0 [a]
  refine own_aloadN X hx hby d_38_1__0 rfl rfl (pc' := 1) rfl ?_
  obtain ⟨T1, X1, e1, st1⟩ := initO X hx hZ hown (own_w hw 27 rfl) (own_w hw 28 rfl) (own_w hw 29 rfl) eT (g := (mkF m 1 #[.val (.ref a), .val (.int (2 : Int32)), .val .null, .val (.ref ct), .val (.int mc)] [(.ref a)])) rfl hml rfl (hb hby d_38_1__1) (by decide) (W := 0) (by show 2 * 0 + _ ≤ _; exact Nat.le_of_eq rfl) (by decide)
  refine own_step st1 ?_
  show GoP p e below Φ (T1.setTop (mkF m 4 #[.val (.ref a), .val (.int (2 : Int32)), .val .null, .val (.ref ct), .val (.int mc)] []))
  refine own_aloadN X1 hx hby d_38_1__4 rfl rfl (pc' := 5) rfl ?_
  refine own_iloadN X1 hx hby d_38_1__5 rfl (pc' := 6) rfl ?_
  refine own_putF X1 hx hby hZ hown (host := "") (Or.inl (own_w hw 30 rfl)) Via.refl e1 F_places Ea (Or.inr ⟨(own_w hw 31 rfl), rfl, hnm⟩) (own_w hw 23 rfl) (ty := .int) (by decide) rfl rfl d_38_1__6 (pc' := 9) rfl ?_
  intro T2 h2 X2 e2 W2
  have E3_a := Ea.wr W2
  have F4_places := F_places.same W2
  have F5_marked := F_marked.other W2 (Or.inr (slot_ne (Or.inr (own_w hw 33 rfl)) (Or.inr (own_w hw 31 rfl)) (by decide) (t := (.array .int)) (t' := .int) (by decide) (by decide)))
  have F6_counts := F_counts.other W2 (Or.inr (slot_ne (Or.inr (own_w hw 35 rfl)) (Or.inr (own_w hw 31 rfl)) (by decide) (t := (.array .int)) (t' := .int) (by decide) (by decide)))
  have F7_markedCount := F_markedCount.other W2 (Or.inr (slot_ne (Or.inr (own_w hw 37 rfl)) (Or.inr (own_w hw 31 rfl)) (by decide) (t := .int) (t' := .int) (by decide) (by decide)))
  have F8_hash := F_hash.other W2 (Or.inr (slot_ne (Or.inr (own_w hw 51 rfl)) (Or.inr (own_w hw 31 rfl)) (by decide) (t := .int) (t' := .int) (by decide) (by decide)))
  have E9_ct := E.wr W2
  have V10_ct := V.other W2 ne_ct
  have N2 := Fr.snoc X2 N0 n0_a
  have K2 : Keep h0 h2 [a] := K0.wr W2 (Or.inl (List.mem_of_getElem? (i := 0) rfl))
  refine own_aloadN X2 hx hby d_38_1__9 rfl rfl (pc' := 10) rfl ?_
  refine own_aloadN X2 hx hby d_38_1__10 rfl rfl (pc' := 11) rfl ?_
  refine own_putF X2 hx hby hZ hown (host := "") (Or.inl (own_w hw 32 rfl)) Via.refl e2 F5_marked E3_a (Or.inr ⟨(own_w hw 33 rfl), rfl, hnm⟩) (own_w hw 23 rfl) (ty := (.array .int)) (by decide) rfl rfl d_38_1__11 (pc' := 14) rfl ?_
  intro T11 h11 X11 e11 W11
  have E12_a := E3_a.wr W11
  have F13_places := F4_places.other W11 (Or.inr (slot_ne (Or.inr (own_w hw 31 rfl)) (Or.inr (own_w hw 33 rfl)) (by decide) (t := .int) (t' := (.array .int)) (by decide) (by decide)))
  have F14_marked := F5_marked.same W11
  have F15_counts := F6_counts.other W11 (Or.inr (slot_ne (Or.inr (own_w hw 35 rfl)) (Or.inr (own_w hw 33 rfl)) (by decide) (t := (.array .int)) (t' := (.array .int)) (by decide) (by decide)))
  have F16_markedCount := F7_markedCount.other W11 (Or.inr (slot_ne (Or.inr (own_w hw 37 rfl)) (Or.inr (own_w hw 33 rfl)) (by decide) (t := .int) (t' := (.array .int)) (by decide) (by decide)))
  have F17_hash := F8_hash.other W11 (Or.inr (slot_ne (Or.inr (own_w hw 51 rfl)) (Or.inr (own_w hw 33 rfl)) (by decide) (t := .int) (t' := (.array .int)) (by decide) (by decide)))
  have E18_ct := E9_ct.wr W11
  have V19_ct := V10_ct.other W11 ne_ct
  have N11 := Fr.snoc X11 N2 n0_a
  have K11 : Keep h0 h11 [a] := K2.wr W11 (Or.inl (List.mem_of_getElem? (i := 0) rfl))
  refine own_aloadN X11 hx hby d_38_1__14 rfl rfl (pc' := 15) rfl ?_
  refine own_aloadN X11 hx hby d_38_1__15 rfl rfl (pc' := 16) rfl ?_
  refine own_putF X11 hx hby hZ hown (host := "") (Or.inl (own_w hw 34 rfl)) Via.refl e11 F15_counts E12_a (Or.inr ⟨(own_w hw 35 rfl), rfl, hnm⟩) (own_w hw 23 rfl) (ty := (.array .int)) (by decide) rfl rfl d_38_1__16 (pc' := 19) rfl ?_
  intro T20 h20 X20 e20 W20
  have E21_a := E12_a.wr W20
  have F22_places := F13_places.other W20 (Or.inr (slot_ne (Or.inr (own_w hw 31 rfl)) (Or.inr (own_w hw 35 rfl)) (by decide) (t := .int) (t' := (.array .int)) (by decide) (by decide)))
  have F23_marked := F14_marked.other W20 (Or.inr (slot_ne (Or.inr (own_w hw 33 rfl)) (Or.inr (own_w hw 35 rfl)) (by decide) (t := (.array .int)) (t' := (.array .int)) (by decide) (by decide)))
  have F24_counts := F15_counts.same W20
  have F25_markedCount := F16_markedCount.other W20 (Or.inr (slot_ne (Or.inr (own_w hw 37 rfl)) (Or.inr (own_w hw 35 rfl)) (by decide) (t := .int) (t' := (.array .int)) (by decide) (by decide)))
  have F26_hash := F17_hash.other W20 (Or.inr (slot_ne (Or.inr (own_w hw 51 rfl)) (Or.inr (own_w hw 35 rfl)) (by decide) (t := .int) (t' := (.array .int)) (by decide) (by decide)))
  have E27_ct := E18_ct.wr W20
  have V28_ct := V19_ct.other W20 ne_ct
  have N20 := Fr.snoc X20 N11 n0_a
  have K20 : Keep h0 h20 [a] := K11.wr W20 (Or.inl (List.mem_of_getElem? (i := 0) rfl))
  refine own_aloadN X20 hx hby d_38_1__19 rfl rfl (pc' := 20) rfl ?_
  refine own_iload X20 hx hby d_38_1__20 rfl (pc' := 22) rfl ?_
  refine own_putF X20 hx hby hZ hown (host := "") (Or.inl (own_w hw 36 rfl)) Via.refl e20 F25_markedCount E21_a (Or.inr ⟨(own_w hw 37 rfl), rfl, hnm⟩) (own_w hw 23 rfl) (ty := .int) (by decide) rfl rfl d_38_1__22 (pc' := 25) rfl ?_
  intro T29 h29 X29 e29 W29
  have E30_a := E21_a.wr W29
  have F31_places := F22_places.other W29 (Or.inr (slot_ne (Or.inr (own_w hw 31 rfl)) (Or.inr (own_w hw 37 rfl)) (by decide) (t := .int) (t' := .int) (by decide) (by decide)))
  have F32_marked := F23_marked.other W29 (Or.inr (slot_ne (Or.inr (own_w hw 33 rfl)) (Or.inr (own_w hw 37 rfl)) (by decide) (t := (.array .int)) (t' := .int) (by decide) (by decide)))
  have F33_counts := F24_counts.other W29 (Or.inr (slot_ne (Or.inr (own_w hw 35 rfl)) (Or.inr (own_w hw 37 rfl)) (by decide) (t := (.array .int)) (t' := .int) (by decide) (by decide)))
  have F34_markedCount := F25_markedCount.same W29
  have F35_hash := F26_hash.other W29 (Or.inr (slot_ne (Or.inr (own_w hw 51 rfl)) (Or.inr (own_w hw 37 rfl)) (by decide) (t := .int) (t' := .int) (by decide) (by decide)))
  have E36_ct := E27_ct.wr W29
  have V37_ct := V28_ct.other W29 ne_ct
  have N29 := Fr.snoc X29 N20 n0_a
  have K29 : Keep h0 h29 [a] := K20.wr W29 (Or.inl (List.mem_of_getElem? (i := 0) rfl))
  refine own_aloadN X29 hx hby d_38_1__25 rfl rfl (pc' := 26) rfl ?_
  refine own_aloadN X29 hx hby d_38_1__26 rfl rfl (pc' := 27) rfl ?_
  refine own_ifnonnullN X29 hx hby d_38_1__27 (pc' := 30) rfl ?_
  refine own_aloadN X29 hx hby d_38_1__30 rfl rfl (pc' := 31) rfl ?_
  refine own_callS X29 hx hby hZ (by exact hml) hown (own_w hw 38 rfl) (own_w hw 39 rfl) (own_w hw 40 rfl) (own_w hw 41 rfl) (by decide) e29 1 (by decide) (by decide) (by decide) (by decide) (argsL := [(.ref ct)]) (rest := [(.ref a)]) (lenOf pd___I_I rfl) rfl (rmHC l Z a0 hw ct x y h29 E36_ct V37_ct) (Nat.le_of_eq rfl) d_38_1__31 (pc' := 34) rfl ?_
  intro v38 T38 L38 X38 hQ38
  obtain ⟨r38, rfl, rfl, e38⟩ := hQ38
  rw [List.append_nil] at X38
  replace e38 : T38.heap = h29 := e38
  show GoP p e below Φ (T38.setTop (mkF m 34 #[.val (.ref a), .val (.int (2 : Int32)), .val .null, .val (.ref ct), .val (.int mc)] [(.int r38), (.ref a)]))
  refine own_goto X38 hx hby d_38_1__34 (by decide) (pc' := 43) (by decide) ?_
  refine own_putF X38 hx hby hZ hown (host := "") (Or.inl (own_w hw 50 rfl)) Via.refl e38 F35_hash E30_a (Or.inr ⟨(own_w hw 51 rfl), rfl, hnm⟩) (own_w hw 23 rfl) (ty := .int) (by decide) rfl rfl d_38_1__43 (pc' := 46) rfl ?_
  intro T39 h39 X39 e39 W39
  have E40_a := E30_a.wr W39
  have F41_places := F31_places.other W39 (Or.inr (slot_ne (Or.inr (own_w hw 31 rfl)) (Or.inr (own_w hw 51 rfl)) (by decide) (t := .int) (t' := .int) (by decide) (by decide)))
  have F42_marked := F32_marked.other W39 (Or.inr (slot_ne (Or.inr (own_w hw 33 rfl)) (Or.inr (own_w hw 51 rfl)) (by decide) (t := (.array .int)) (t' := .int) (by decide) (by decide)))
  have F43_counts := F33_counts.other W39 (Or.inr (slot_ne (Or.inr (own_w hw 35 rfl)) (Or.inr (own_w hw 51 rfl)) (by decide) (t := (.array .int)) (t' := .int) (by decide) (by decide)))
  have F44_markedCount := F34_markedCount.other W39 (Or.inr (slot_ne (Or.inr (own_w hw 37 rfl)) (Or.inr (own_w hw 51 rfl)) (by decide) (t := .int) (t' := .int) (by decide) (by decide)))
  have F45_hash := F35_hash.same W39
  have E46_ct := E36_ct.wr W39
  have V47_ct := V37_ct.other W39 ne_ct
  have N39 := Fr.snoc X39 N29 n0_a
  have K39 : Keep h0 h39 [a] := K29.wr W39 (Or.inl (List.mem_of_getElem? (i := 0) rfl))
  exact own_ret0 X39 hx hby fin hret d_38_1__46 (by decide) (by decide) (by rw [e39]; exact ⟨rfl, N39, K39, E40_a, F42_marked, F43_counts, F44_markedCount⟩)
theorem ef_rmMS (m : MethodId) (x0 : Addr) (x1 : Int32) (x2 : Addr) (x3 : Addr) (x4 : Int32) : entryFrame m #[(.ref x0), (.int x1), (.ref x2), (.ref x3), (.int x4)] 5 = mkF m 0 #[.val (.ref x0), .val (.int x1), .val (.ref x2), .val (.ref x3), .val (.int x4)] [] := by first | (simp [entryFrame, mkF, argsToLocals, Value.category]; done) | rfl
theorem d_38_1__37 : decode prog_38_method_1_code 37 = .ok (.iload_n 1, 1) := by decide +kernel
theorem d_38_1__38 : decode prog_38_method_1_code 38 = .ok (.aload_n 2, 1) := by decide +kernel
theorem d_38_1__39 : decode prog_38_method_1_code 39 = .ok (.aload_n 3, 1) := by decide +kernel
theorem d_38_1__40 : decode prog_38_method_1_code 40 = .ok (.invokestatic 29, 3) := by decide +kernel
theorem pd__I_I_I_I : parseMethodDescriptor "(I[I[I)I" = some ⟨[.int, (.array .int), (.array .int)], some .int⟩ := by decide +kernel
set_option maxRecDepth 65536 in
set_option maxHeartbeats 40000000 in
theorem rmMS (l : Launch) (Z : State) (a0 : Array Value) (hw : ∀ d ∈ tables_1, d.before a0 Z = true) (a ma ct : Addr) (mc : Int32) (n0 : Nat) (h0 : Heap) (ne_ma : ma ≠ a) (V : AV Z h0 ma .int []) (n0_a : n0 ≤ a) (Ea : Exa Z h0 a "com/example/tracemass/tracemass/nets/Marking") (F_places : Fld Z h0 a "com/example/tracemass/tracemass/nets/Marking" "places" "I" (.int (0 : Int32))) (F_marked : Fld Z h0 a "com/example/tracemass/tracemass/nets/Marking" "marked" "[I" .null) (F_counts : Fld Z h0 a "com/example/tracemass/tracemass/nets/Marking" "counts" "[I" .null) (F_markedCount : Fld Z h0 a "com/example/tracemass/tracemass/nets/Marking" "markedCount" "I" (.int (0 : Int32))) (F_hash : Fld Z h0 a "com/example/tracemass/tracemass/nets/Marking" "hash" "I" (.int (0 : Int32))) : Con l Z (⟨"com/example/tracemass/tracemass/nets/Marking", "<init>", "(I[I[II)V"⟩ : MethodName) prog_38_method_1_code 5 none [] ({ frames := 3, cells := 0, slots := 0, locals := 60 } : Room) #[(.ref a), (.int (2 : Int32)), (.ref ma), (.ref ct), (.int mc)] h0 (fun v h L => v = none ∧ Fr n0 L ∧ Keep h0 h [a] ∧ Exa Z h a "com/example/tracemass/tracemass/nets/Marking" ∧ Fld Z h a "com/example/tracemass/tracemass/nets/Marking" "marked" "[I" (.ref ma) ∧ Fld Z h a "com/example/tracemass/tracemass/nets/Marking" "counts" "[I" (.ref ct) ∧ Fld Z h a "com/example/tracemass/tracemass/nets/Marking" "markedCount" "I" (.int mc)) := by
  refine Con.of (plainFor_of_name pn_com_example_tracemass_tracemass_nets_Marking) ?_
  intro p e s m below meth c T X hx hby hml hown hnm hret eT hZ hsh Φ fin
  replace hown : s.vm.findClass "com/example/tracemass/tracemass/nets/Marking" = some m.cls := hown
  replace hml : 5 = c.maxLocals := hml.symm
  refine own_step (fun tq kq => castTop (ef_rmMS m a (2 : Int32) ma ct mc) kq) ?_
  have N0 := Fr.nil n0
  have K0 : Keep h0 h0 [a] := Keep.refl h0 [a]
  refine own_aloadN X hx hby d_38_1__0 rfl rfl (pc' := 1) rfl ?_
  obtain ⟨T1, X1, e1, st1⟩ := initO X hx hZ hown (own_w hw 27 rfl) (own_w hw 28 rfl) (own_w hw 29 rfl) eT (g := (mkF m 1 #[.val (.ref a), .val (.int (2 : Int32)), .val (.ref ma), .val (.ref ct), .val (.int mc)] [(.ref a)])) rfl hml rfl (hb hby d_38_1__1) (by decide) (W := 0) (by show 2 * 0 + _ ≤ _; exact Nat.le_of_eq rfl) (by decide)
  refine own_step st1 ?_
  show GoP p e below Φ (T1.setTop (mkF m 4 #[.val (.ref a), .val (.int (2 : Int32)), .val (.ref ma), .val (.ref ct), .val (.int mc)] []))
  refine own_aloadN X1 hx hby d_38_1__4 rfl rfl (pc' := 5) rfl ?_
  refine own_iloadN X1 hx hby d_38_1__5 rfl (pc' := 6) rfl ?_
  refine own_putF X1 hx hby hZ hown (host := "") (Or.inl (own_w hw 30 rfl)) Via.refl e1 F_places Ea (Or.inr ⟨(own_w hw 31 rfl), rfl, hnm⟩) (own_w hw 23 rfl) (ty := .int) (by decide) rfl rfl d_38_1__6 (pc' := 9) rfl ?_
  intro T2 h2 X2 e2 W2
  have E3_a := Ea.wr W2
  have F4_places := F_places.same W2
  have F5_marked := F_marked.other W2 (Or.inr (slot_ne (Or.inr (own_w hw 33 rfl)) (Or.inr (own_w hw 31 rfl)) (by decide) (t := (.array .int)) (t' := .int) (by decide) (by decide)))
  have F6_counts := F_counts.other W2 (Or.inr (slot_ne (Or.inr (own_w hw 35 rfl)) (Or.inr (own_w hw 31 rfl)) (by decide) (t := (.array .int)) (t' := .int) (by decide) (by decide)))
  have F7_markedCount := F_markedCount.other W2 (Or.inr (slot_ne (Or.inr (own_w hw 37 rfl)) (Or.inr (own_w hw 31 rfl)) (by decide) (t := .int) (t' := .int) (by decide) (by decide)))
  have F8_hash := F_hash.other W2 (Or.inr (slot_ne (Or.inr (own_w hw 51 rfl)) (Or.inr (own_w hw 31 rfl)) (by decide) (t := .int) (t' := .int) (by decide) (by decide)))
  have V9_ma := V.other W2 ne_ma
  have N2 := Fr.snoc X2 N0 n0_a
  have K2 : Keep h0 h2 [a] := K0.wr W2 (Or.inl (List.mem_of_getElem? (i := 0) rfl))
  refine own_aloadN X2 hx hby d_38_1__9 rfl rfl (pc' := 10) rfl ?_
  refine own_aloadN X2 hx hby d_38_1__10 rfl rfl (pc' := 11) rfl ?_
  refine own_putF X2 hx hby hZ hown (host := "") (Or.inl (own_w hw 32 rfl)) Via.refl e2 F5_marked E3_a (Or.inr ⟨(own_w hw 33 rfl), rfl, hnm⟩) (own_w hw 23 rfl) (ty := (.array .int)) (by decide) rfl rfl d_38_1__11 (pc' := 14) rfl ?_
  intro T10 h10 X10 e10 W10
  have E11_a := E3_a.wr W10
  have F12_places := F4_places.other W10 (Or.inr (slot_ne (Or.inr (own_w hw 31 rfl)) (Or.inr (own_w hw 33 rfl)) (by decide) (t := .int) (t' := (.array .int)) (by decide) (by decide)))
  have F13_marked := F5_marked.same W10
  have F14_counts := F6_counts.other W10 (Or.inr (slot_ne (Or.inr (own_w hw 35 rfl)) (Or.inr (own_w hw 33 rfl)) (by decide) (t := (.array .int)) (t' := (.array .int)) (by decide) (by decide)))
  have F15_markedCount := F7_markedCount.other W10 (Or.inr (slot_ne (Or.inr (own_w hw 37 rfl)) (Or.inr (own_w hw 33 rfl)) (by decide) (t := .int) (t' := (.array .int)) (by decide) (by decide)))
  have F16_hash := F8_hash.other W10 (Or.inr (slot_ne (Or.inr (own_w hw 51 rfl)) (Or.inr (own_w hw 33 rfl)) (by decide) (t := .int) (t' := (.array .int)) (by decide) (by decide)))
  have V17_ma := V9_ma.other W10 ne_ma
  have N10 := Fr.snoc X10 N2 n0_a
  have K10 : Keep h0 h10 [a] := K2.wr W10 (Or.inl (List.mem_of_getElem? (i := 0) rfl))
  refine own_aloadN X10 hx hby d_38_1__14 rfl rfl (pc' := 15) rfl ?_
  refine own_aloadN X10 hx hby d_38_1__15 rfl rfl (pc' := 16) rfl ?_
  refine own_putF X10 hx hby hZ hown (host := "") (Or.inl (own_w hw 34 rfl)) Via.refl e10 F14_counts E11_a (Or.inr ⟨(own_w hw 35 rfl), rfl, hnm⟩) (own_w hw 23 rfl) (ty := (.array .int)) (by decide) rfl rfl d_38_1__16 (pc' := 19) rfl ?_
  intro T18 h18 X18 e18 W18
  have E19_a := E11_a.wr W18
  have F20_places := F12_places.other W18 (Or.inr (slot_ne (Or.inr (own_w hw 31 rfl)) (Or.inr (own_w hw 35 rfl)) (by decide) (t := .int) (t' := (.array .int)) (by decide) (by decide)))
  have F21_marked := F13_marked.other W18 (Or.inr (slot_ne (Or.inr (own_w hw 33 rfl)) (Or.inr (own_w hw 35 rfl)) (by decide) (t := (.array .int)) (t' := (.array .int)) (by decide) (by decide)))
  have F22_counts := F14_counts.same W18
  have F23_markedCount := F15_markedCount.other W18 (Or.inr (slot_ne (Or.inr (own_w hw 37 rfl)) (Or.inr (own_w hw 35 rfl)) (by decide) (t := .int) (t' := (.array .int)) (by decide) (by decide)))
  have F24_hash := F16_hash.other W18 (Or.inr (slot_ne (Or.inr (own_w hw 51 rfl)) (Or.inr (own_w hw 35 rfl)) (by decide) (t := .int) (t' := (.array .int)) (by decide) (by decide)))
  have V25_ma := V17_ma.other W18 ne_ma
  have N18 := Fr.snoc X18 N10 n0_a
  have K18 : Keep h0 h18 [a] := K10.wr W18 (Or.inl (List.mem_of_getElem? (i := 0) rfl))
  refine own_aloadN X18 hx hby d_38_1__19 rfl rfl (pc' := 20) rfl ?_
  refine own_iload X18 hx hby d_38_1__20 rfl (pc' := 22) rfl ?_
  refine own_putF X18 hx hby hZ hown (host := "") (Or.inl (own_w hw 36 rfl)) Via.refl e18 F23_markedCount E19_a (Or.inr ⟨(own_w hw 37 rfl), rfl, hnm⟩) (own_w hw 23 rfl) (ty := .int) (by decide) rfl rfl d_38_1__22 (pc' := 25) rfl ?_
  intro T26 h26 X26 e26 W26
  have E27_a := E19_a.wr W26
  have F28_places := F20_places.other W26 (Or.inr (slot_ne (Or.inr (own_w hw 31 rfl)) (Or.inr (own_w hw 37 rfl)) (by decide) (t := .int) (t' := .int) (by decide) (by decide)))
  have F29_marked := F21_marked.other W26 (Or.inr (slot_ne (Or.inr (own_w hw 33 rfl)) (Or.inr (own_w hw 37 rfl)) (by decide) (t := (.array .int)) (t' := .int) (by decide) (by decide)))
  have F30_counts := F22_counts.other W26 (Or.inr (slot_ne (Or.inr (own_w hw 35 rfl)) (Or.inr (own_w hw 37 rfl)) (by decide) (t := (.array .int)) (t' := .int) (by decide) (by decide)))
  have F31_markedCount := F23_markedCount.same W26
  have F32_hash := F24_hash.other W26 (Or.inr (slot_ne (Or.inr (own_w hw 51 rfl)) (Or.inr (own_w hw 37 rfl)) (by decide) (t := .int) (t' := .int) (by decide) (by decide)))
  have V33_ma := V25_ma.other W26 ne_ma
  have N26 := Fr.snoc X26 N18 n0_a
  have K26 : Keep h0 h26 [a] := K18.wr W26 (Or.inl (List.mem_of_getElem? (i := 0) rfl))
  refine own_aloadN X26 hx hby d_38_1__25 rfl rfl (pc' := 26) rfl ?_
  refine own_aloadN X26 hx hby d_38_1__26 rfl rfl (pc' := 27) rfl ?_
  refine own_ifnonnullY X26 hx hby d_38_1__27 (by decide) (pc' := 37) (by decide) ?_
  refine own_iloadN X26 hx hby d_38_1__37 rfl (pc' := 38) rfl ?_
  refine own_aloadN X26 hx hby d_38_1__38 rfl rfl (pc' := 39) rfl ?_
  refine own_aloadN X26 hx hby d_38_1__39 rfl rfl (pc' := 40) rfl ?_
  refine own_callS X26 hx hby hZ (by exact hml) hown (own_w hw 216 rfl) (own_w hw 217 rfl) (own_w hw 4 rfl) (own_w hw 218 rfl) (by decide) e26 1 (by decide) (by decide) (by decide) (by decide) (argsL := [(.int (2 : Int32)), (.ref ma), (.ref ct)]) (rest := [(.ref a)]) (lenOf pd__I_I_I_I rfl) rfl (rmSH l Z a0 hw ma ct h26 V33_ma) (Nat.le_of_eq rfl) d_38_1__40 (pc' := 43) rfl ?_
  intro v34 T34 L34 X34 hQ34
  obtain ⟨rfl, rfl, e34⟩ := hQ34
  rw [List.append_nil] at X34
  replace e34 : T34.heap = h26 := e34
  show GoP p e below Φ (T34.setTop (mkF m 43 #[.val (.ref a), .val (.int (2 : Int32)), .val (.ref ma), .val (.ref ct), .val (.int mc)] [(.int (961 : Int32)), (.ref a)]))
  refine own_putF X34 hx hby hZ hown (host := "") (Or.inl (own_w hw 50 rfl)) Via.refl e34 F32_hash E27_a (Or.inr ⟨(own_w hw 51 rfl), rfl, hnm⟩) (own_w hw 23 rfl) (ty := .int) (by decide) rfl rfl d_38_1__43 (pc' := 46) rfl ?_
  intro T35 h35 X35 e35 W35
  have E36_a := E27_a.wr W35
  have F37_places := F28_places.other W35 (Or.inr (slot_ne (Or.inr (own_w hw 31 rfl)) (Or.inr (own_w hw 51 rfl)) (by decide) (t := .int) (t' := .int) (by decide) (by decide)))
  have F38_marked := F29_marked.other W35 (Or.inr (slot_ne (Or.inr (own_w hw 33 rfl)) (Or.inr (own_w hw 51 rfl)) (by decide) (t := (.array .int)) (t' := .int) (by decide) (by decide)))
  have F39_counts := F30_counts.other W35 (Or.inr (slot_ne (Or.inr (own_w hw 35 rfl)) (Or.inr (own_w hw 51 rfl)) (by decide) (t := (.array .int)) (t' := .int) (by decide) (by decide)))
  have F40_markedCount := F31_markedCount.other W35 (Or.inr (slot_ne (Or.inr (own_w hw 37 rfl)) (Or.inr (own_w hw 51 rfl)) (by decide) (t := .int) (t' := .int) (by decide) (by decide)))
  have F41_hash := F32_hash.same W35
  have V42_ma := V33_ma.other W35 ne_ma
  have N35 := Fr.snoc X35 N26 n0_a
  have K35 : Keep h0 h35 [a] := K26.wr W35 (Or.inl (List.mem_of_getElem? (i := 0) rfl))
  exact own_ret0 X35 hx hby fin hret d_38_1__46 (by decide) (by decide) (by rw [e35]; exact ⟨rfl, N35, K35, E36_a, F38_marked, F39_counts, F40_markedCount⟩)
theorem ef_rmOC1 (m : MethodId) (x0 : Addr) (x1 : Int32) : entryFrame m #[(.ref x0), (.int x1)] 7 = mkF m 0 #[.val (.ref x0), .val (.int x1), .unset, .unset, .unset, .unset, .unset] [] := by first | (simp [entryFrame, mkF, argsToLocals, Value.category]; done) | rfl
theorem d_38_3__0 : decode prog_38_method_3_code 0 = .ok (.aload_n 0, 1) := by decide +kernel
theorem d_38_3__1 : decode prog_38_method_3_code 1 = .ok (.arraylength, 1) := by decide +kernel
theorem d_38_3__2 : decode prog_38_method_3_code 2 = .ok (.iload_n 1, 1) := by decide +kernel
theorem d_38_3__3 : decode prog_38_method_3_code 3 = .ok (.invokestatic 49, 3) := by decide +kernel
theorem pd__II_Z : parseMethodDescriptor "(II)Z" = some ⟨[.int, .int], some .boolean⟩ := by decide +kernel
theorem d_38_3__6 : decode prog_38_method_3_code 6 = .ok (.ifCond .eq 19, 3) := by decide +kernel
theorem d_38_3__9 : decode prog_38_method_3_code 9 = .ok (.new 8, 3) := by decide +kernel
theorem d_38_3__12 : decode prog_38_method_3_code 12 = .ok (.dup, 1) := by decide +kernel
theorem d_38_3__13 : decode prog_38_method_3_code 13 = .ok (.aload_n 0, 1) := by decide +kernel
theorem d_38_3__14 : decode prog_38_method_3_code 14 = .ok (.arraylength, 1) := by decide +kernel
theorem d_38_3__15 : decode prog_38_method_3_code 15 = .ok (.aconst_null, 1) := by decide +kernel
theorem d_38_3__16 : decode prog_38_method_3_code 16 = .ok (.aload_n 0, 1) := by decide +kernel
theorem d_38_3__17 : decode prog_38_method_3_code 17 = .ok (.iload_n 1, 1) := by decide +kernel
theorem d_38_3__18 : decode prog_38_method_3_code 18 = .ok (.invokespecial 62, 3) := by decide +kernel
theorem pd__I_I_II_V : parseMethodDescriptor "(I[I[II)V" = some ⟨[.int, (.array .int), (.array .int), .int], none⟩ := by decide +kernel
theorem d_38_3__21 : decode prog_38_method_3_code 21 = .ok (.astore_n 2, 1) := by decide +kernel
theorem d_38_3__22 : decode prog_38_method_3_code 22 = .ok (.goto 70, 3) := by decide +kernel
theorem d_38_3__92 : decode prog_38_method_3_code 92 = .ok (.aload_n 2, 1) := by decide +kernel
theorem d_38_3__93 : decode prog_38_method_3_code 93 = .ok (.areturn, 1) := by decide +kernel
set_option maxRecDepth 65536 in
set_option maxHeartbeats 40000000 in
theorem rmOC1 (l : Launch) (Z : State) (a0 : Array Value) (hw : ∀ d ∈ tables_1, d.before a0 Z = true) (ct : Addr) (x y : Int32) (n0 : Nat) (h0 : Heap) (Z0 : n0 ≤ h0.size) (E : Exa Z h0 ct "[I") (V : AV Z h0 ct .int [.int x, .int y]) : Con l Z (⟨"com/example/tracemass/tracemass/nets/Marking", "ofCounts", "([II)Lcom/example/tracemass/tracemass/nets/Marking;"⟩ : MethodName) prog_38_method_3_code 7 (some (.object "com/example/tracemass/tracemass/nets/Marking")) [] ({ frames := 4, cells := 3, slots := 5, locals := 80 } : Room) #[(.ref ct), (.int (1 : Int32))] h0 (fun v h L => ∃ mk : Addr, v = some (.ref mk) ∧ Fr n0 L ∧ Keep h0 h [] ∧ h0.size ≤ mk ∧ Exa Z h mk "com/example/tracemass/tracemass/nets/Marking" ∧ Fld Z h mk "com/example/tracemass/tracemass/nets/Marking" "marked" "[I" .null ∧ Fld Z h mk "com/example/tracemass/tracemass/nets/Marking" "counts" "[I" (.ref ct) ∧ Fld Z h mk "com/example/tracemass/tracemass/nets/Marking" "markedCount" "I" (.int (1 : Int32))) := by
  refine Con.of (plainFor_of_name pn_com_example_tracemass_tracemass_nets_Marking) ?_
  intro p e s m below meth c T X hx hby hml hown hnm hret eT hZ hsh Φ fin
  replace hown : s.vm.findClass "com/example/tracemass/tracemass/nets/Marking" = some m.cls := hown
  replace hml : 7 = c.maxLocals := hml.symm
  refine own_step (fun tq kq => castTop (ef_rmOC1 m ct (1 : Int32)) kq) ?_
  have N0 := Fr.nil n0
  have K0 : Keep h0 h0 [] := Keep.refl h0 []
  refine own_aloadN X hx hby d_38_3__0 rfl rfl (pc' := 1) rfl ?_
  refine own_alen X hx hby hZ eT (n := (2 : Int32)) V rfl d_38_3__1 (pc' := 2) rfl ?_
  refine own_iloadN X hx hby d_38_3__2 rfl (pc' := 3) rfl ?_
  refine own_callS X hx hby hZ (by exact hml) hown (own_w hw 6 rfl) (own_w hw 7 rfl) (own_w hw 4 rfl) (own_w hw 8 rfl) (by decide) eT 0 (by decide) (by decide) (by decide) (by decide) (argsL := [(.int (2 : Int32)), (.int (1 : Int32))]) (rest := []) (lenOf pd__II_Z rfl) rfl (rmKP1 l Z a0 hw h0) (Nat.le_of_eq rfl) d_38_3__3 (pc' := 6) rfl ?_
  intro v1 T1 L1 X1 hQ1
  obtain ⟨rfl, rfl, e1⟩ := hQ1
  rw [List.append_nil] at X1
  replace e1 : T1.heap = h0 := e1
  show GoP p e below Φ (T1.setTop (mkF m 6 #[.val (.ref ct), .val (.int (1 : Int32)), .unset, .unset, .unset, .unset, .unset] [(.int (1 : Int32))]))
  refine own_ifN X1 hx hby d_38_3__6 ((if0 _ _).trans (feq (by decide)).1) (pc' := 9) rfl ?_
  obtain ⟨T2, h2, X2, e2, E2, A2, D2, -, st2⟩ := newO X1 hx hZ hown (own_w hw 22 rfl) (own_w hw 23 rfl) (own_w hw 4 rfl) e1 (g := (mkF m 9 #[.val (.ref ct), .val (.int (1 : Int32)), .unset, .unset, .unset, .unset, .unset] [])) rfl (hb hby d_38_3__9) (by decide) (by decide)
  obtain ⟨b2, g2⟩ : ∃ z, z = h0.size := ⟨_, rfl⟩
  have ne_ct_b2 : ct ≠ b2 := Nat.ne_of_lt (g2 ▸ E.lt)
  have E3_ct := E.ext E2
  have V4_ct := V.ext E2
  have Z2 : n0 ≤ h2.size := Nat.le_trans Z0 E2.1
  have n0_b2 : n0 ≤ b2 := g2 ▸ Z0
  have sz_b2 : h0.size ≤ b2 := g2 ▸ K0.1
  have K2 : Keep h0 h2 [] := K0.ext E2
  rw [← g2] at A2 D2 st2
  refine own_step st2 ?_
  have F2_places : Fld Z h2 b2 "com/example/tracemass/tracemass/nets/Marking" "places" "I" (.int (0 : Int32)) := D2 (Or.inr (own_w hw 31 rfl)) (ty := .int) (by decide)
  have F2_marked : Fld Z h2 b2 "com/example/tracemass/tracemass/nets/Marking" "marked" "[I" .null := D2 (Or.inr (own_w hw 33 rfl)) (ty := (.array .int)) (by decide)
  have F2_counts : Fld Z h2 b2 "com/example/tracemass/tracemass/nets/Marking" "counts" "[I" .null := D2 (Or.inr (own_w hw 35 rfl)) (ty := (.array .int)) (by decide)
  have F2_markedCount : Fld Z h2 b2 "com/example/tracemass/tracemass/nets/Marking" "markedCount" "I" (.int (0 : Int32)) := D2 (Or.inr (own_w hw 37 rfl)) (ty := .int) (by decide)
  have F2_hash : Fld Z h2 b2 "com/example/tracemass/tracemass/nets/Marking" "hash" "I" (.int (0 : Int32)) := D2 (Or.inr (own_w hw 51 rfl)) (ty := .int) (by decide)
  show GoP p e below Φ (T2.setTop (mkF m 12 #[.val (.ref ct), .val (.int (1 : Int32)), .unset, .unset, .unset, .unset, .unset] [(.ref b2)]))
  refine own_dup X2 hx hby d_38_3__12 rfl (pc' := 13) rfl ?_
  refine own_aloadN X2 hx hby d_38_3__13 rfl rfl (pc' := 14) rfl ?_
  refine own_alen X2 hx hby hZ e2 (n := (2 : Int32)) V4_ct rfl d_38_3__14 (pc' := 15) rfl ?_
  refine own_aconst_null X2 hx hby d_38_3__15 (pc' := 16) rfl ?_
  refine own_aloadN X2 hx hby d_38_3__16 rfl rfl (pc' := 17) rfl ?_
  refine own_iloadN X2 hx hby d_38_3__17 rfl (pc' := 18) rfl ?_
  refine own_callI X2 hx hby hZ (by exact hml) hown rfl (own_w hw 24 rfl) (own_w hw 25 rfl) (own_w hw 4 rfl) (own_w hw 26 rfl) (by decide) e2 1 (by decide) (by decide) (by decide) (by decide) (argsL := [(.int (2 : Int32)), .null, (.ref ct), (.int (1 : Int32))]) (rest := [(.ref b2)]) (lenOf pd__I_I_II_V rfl) rfl (Nat.le_of_eq rfl) (rmMI l Z a0 hw b2 ct (1 : Int32) x y n0 h2 ne_ct_b2 E3_ct V4_ct n0_b2 A2 F2_places F2_marked F2_counts F2_markedCount F2_hash) d_38_3__18 (pc' := 21) rfl ?_
  intro v5 T5 L5 X5 hQ5
  obtain ⟨rfl, Nq5, K5, E5, F15, F25, F35⟩ := hQ5
  have E6_ct := E3_ct.keep K5
  have V7_ct := V4_ct.keep K5 (ninS ne_ct_b2 nin0)
  have N5 := Fr.app N0 Nq5
  have Z5 : n0 ≤ T5.heap.size := Nat.le_trans Z2 K5.1
  have KK5 : Keep h0 T5.heap [] := K2.trans K5 (allS (Or.inr sz_b2) all0)
  show GoP p e below Φ (T5.setTop (mkF m 21 #[.val (.ref ct), .val (.int (1 : Int32)), .unset, .unset, .unset, .unset, .unset] [(.ref b2)]))
  refine own_astoreN X5 hx hby d_38_3__21 rfl (Ls' := #[.val (.ref ct), .val (.int (1 : Int32)), .val (.ref b2), .unset, .unset, .unset, .unset]) rfl (pc' := 22) rfl ?_
  refine own_goto X5 hx hby d_38_3__22 (by decide) (pc' := 92) (by decide) ?_
  refine own_aloadN X5 hx hby d_38_3__92 rfl rfl (pc' := 93) rfl ?_
  exact own_retA X5 hx hby fin hret rfl rfl rfl d_38_3__93 (by decide) (by decide) (by exact ⟨b2, rfl, N5, KK5, sz_b2, E5, F15, F25, F35⟩)
theorem ef_rmOC2 (m : MethodId) (x0 : Addr) (x1 : Int32) : entryFrame m #[(.ref x0), (.int x1)] 7 = mkF m 0 #[.val (.ref x0), .val (.int x1), .unset, .unset, .unset, .unset, .unset] [] := by first | (simp [entryFrame, mkF, argsToLocals, Value.category]; done) | rfl
set_option maxRecDepth 65536 in
set_option maxHeartbeats 40000000 in
theorem rmOC2 (l : Launch) (Z : State) (a0 : Array Value) (hw : ∀ d ∈ tables_1, d.before a0 Z = true) (ct : Addr) (x y : Int32) (n0 : Nat) (h0 : Heap) (Z0 : n0 ≤ h0.size) (E : Exa Z h0 ct "[I") (V : AV Z h0 ct .int [.int x, .int y]) : Con l Z (⟨"com/example/tracemass/tracemass/nets/Marking", "ofCounts", "([II)Lcom/example/tracemass/tracemass/nets/Marking;"⟩ : MethodName) prog_38_method_3_code 7 (some (.object "com/example/tracemass/tracemass/nets/Marking")) [] ({ frames := 4, cells := 3, slots := 5, locals := 80 } : Room) #[(.ref ct), (.int (2 : Int32))] h0 (fun v h L => ∃ mk : Addr, v = some (.ref mk) ∧ Fr n0 L ∧ Keep h0 h [] ∧ h0.size ≤ mk ∧ Exa Z h mk "com/example/tracemass/tracemass/nets/Marking" ∧ Fld Z h mk "com/example/tracemass/tracemass/nets/Marking" "marked" "[I" .null ∧ Fld Z h mk "com/example/tracemass/tracemass/nets/Marking" "counts" "[I" (.ref ct) ∧ Fld Z h mk "com/example/tracemass/tracemass/nets/Marking" "markedCount" "I" (.int (2 : Int32))) := by
  refine Con.of (plainFor_of_name pn_com_example_tracemass_tracemass_nets_Marking) ?_
  intro p e s m below meth c T X hx hby hml hown hnm hret eT hZ hsh Φ fin
  replace hown : s.vm.findClass "com/example/tracemass/tracemass/nets/Marking" = some m.cls := hown
  replace hml : 7 = c.maxLocals := hml.symm
  refine own_step (fun tq kq => castTop (ef_rmOC2 m ct (2 : Int32)) kq) ?_
  have N0 := Fr.nil n0
  have K0 : Keep h0 h0 [] := Keep.refl h0 []
  refine own_aloadN X hx hby d_38_3__0 rfl rfl (pc' := 1) rfl ?_
  refine own_alen X hx hby hZ eT (n := (2 : Int32)) V rfl d_38_3__1 (pc' := 2) rfl ?_
  refine own_iloadN X hx hby d_38_3__2 rfl (pc' := 3) rfl ?_
  refine own_callS X hx hby hZ (by exact hml) hown (own_w hw 6 rfl) (own_w hw 7 rfl) (own_w hw 4 rfl) (own_w hw 8 rfl) (by decide) eT 0 (by decide) (by decide) (by decide) (by decide) (argsL := [(.int (2 : Int32)), (.int (2 : Int32))]) (rest := []) (lenOf pd__II_Z rfl) rfl (rmKP2 l Z a0 hw h0) (Nat.le_of_eq rfl) d_38_3__3 (pc' := 6) rfl ?_
  intro v1 T1 L1 X1 hQ1
  obtain ⟨rfl, rfl, e1⟩ := hQ1
  rw [List.append_nil] at X1
  replace e1 : T1.heap = h0 := e1
  show GoP p e below Φ (T1.setTop (mkF m 6 #[.val (.ref ct), .val (.int (2 : Int32)), .unset, .unset, .unset, .unset, .unset] [(.int (1 : Int32))]))
  refine own_ifN X1 hx hby d_38_3__6 ((if0 _ _).trans (feq (by decide)).1) (pc' := 9) rfl ?_
  obtain ⟨T2, h2, X2, e2, E2, A2, D2, -, st2⟩ := newO X1 hx hZ hown (own_w hw 22 rfl) (own_w hw 23 rfl) (own_w hw 4 rfl) e1 (g := (mkF m 9 #[.val (.ref ct), .val (.int (2 : Int32)), .unset, .unset, .unset, .unset, .unset] [])) rfl (hb hby d_38_3__9) (by decide) (by decide)
  obtain ⟨b2, g2⟩ : ∃ z, z = h0.size := ⟨_, rfl⟩
  have ne_ct_b2 : ct ≠ b2 := Nat.ne_of_lt (g2 ▸ E.lt)
  have E3_ct := E.ext E2
  have V4_ct := V.ext E2
  have Z2 : n0 ≤ h2.size := Nat.le_trans Z0 E2.1
  have n0_b2 : n0 ≤ b2 := g2 ▸ Z0
  have sz_b2 : h0.size ≤ b2 := g2 ▸ K0.1
  have K2 : Keep h0 h2 [] := K0.ext E2
  rw [← g2] at A2 D2 st2
  refine own_step st2 ?_
  have F2_places : Fld Z h2 b2 "com/example/tracemass/tracemass/nets/Marking" "places" "I" (.int (0 : Int32)) := D2 (Or.inr (own_w hw 31 rfl)) (ty := .int) (by decide)
  have F2_marked : Fld Z h2 b2 "com/example/tracemass/tracemass/nets/Marking" "marked" "[I" .null := D2 (Or.inr (own_w hw 33 rfl)) (ty := (.array .int)) (by decide)
  have F2_counts : Fld Z h2 b2 "com/example/tracemass/tracemass/nets/Marking" "counts" "[I" .null := D2 (Or.inr (own_w hw 35 rfl)) (ty := (.array .int)) (by decide)
  have F2_markedCount : Fld Z h2 b2 "com/example/tracemass/tracemass/nets/Marking" "markedCount" "I" (.int (0 : Int32)) := D2 (Or.inr (own_w hw 37 rfl)) (ty := .int) (by decide)
  have F2_hash : Fld Z h2 b2 "com/example/tracemass/tracemass/nets/Marking" "hash" "I" (.int (0 : Int32)) := D2 (Or.inr (own_w hw 51 rfl)) (ty := .int) (by decide)
  show GoP p e below Φ (T2.setTop (mkF m 12 #[.val (.ref ct), .val (.int (2 : Int32)), .unset, .unset, .unset, .unset, .unset] [(.ref b2)]))
  refine own_dup X2 hx hby d_38_3__12 rfl (pc' := 13) rfl ?_
  refine own_aloadN X2 hx hby d_38_3__13 rfl rfl (pc' := 14) rfl ?_
  refine own_alen X2 hx hby hZ e2 (n := (2 : Int32)) V4_ct rfl d_38_3__14 (pc' := 15) rfl ?_
  refine own_aconst_null X2 hx hby d_38_3__15 (pc' := 16) rfl ?_
  refine own_aloadN X2 hx hby d_38_3__16 rfl rfl (pc' := 17) rfl ?_
  refine own_iloadN X2 hx hby d_38_3__17 rfl (pc' := 18) rfl ?_
  refine own_callI X2 hx hby hZ (by exact hml) hown rfl (own_w hw 24 rfl) (own_w hw 25 rfl) (own_w hw 4 rfl) (own_w hw 26 rfl) (by decide) e2 1 (by decide) (by decide) (by decide) (by decide) (argsL := [(.int (2 : Int32)), .null, (.ref ct), (.int (2 : Int32))]) (rest := [(.ref b2)]) (lenOf pd__I_I_II_V rfl) rfl (Nat.le_of_eq rfl) (rmMI l Z a0 hw b2 ct (2 : Int32) x y n0 h2 ne_ct_b2 E3_ct V4_ct n0_b2 A2 F2_places F2_marked F2_counts F2_markedCount F2_hash) d_38_3__18 (pc' := 21) rfl ?_
  intro v5 T5 L5 X5 hQ5
  obtain ⟨rfl, Nq5, K5, E5, F15, F25, F35⟩ := hQ5
  have E6_ct := E3_ct.keep K5
  have V7_ct := V4_ct.keep K5 (ninS ne_ct_b2 nin0)
  have N5 := Fr.app N0 Nq5
  have Z5 : n0 ≤ T5.heap.size := Nat.le_trans Z2 K5.1
  have KK5 : Keep h0 T5.heap [] := K2.trans K5 (allS (Or.inr sz_b2) all0)
  show GoP p e below Φ (T5.setTop (mkF m 21 #[.val (.ref ct), .val (.int (2 : Int32)), .unset, .unset, .unset, .unset, .unset] [(.ref b2)]))
  refine own_astoreN X5 hx hby d_38_3__21 rfl (Ls' := #[.val (.ref ct), .val (.int (2 : Int32)), .val (.ref b2), .unset, .unset, .unset, .unset]) rfl (pc' := 22) rfl ?_
  refine own_goto X5 hx hby d_38_3__22 (by decide) (pc' := 92) (by decide) ?_
  refine own_aloadN X5 hx hby d_38_3__92 rfl rfl (pc' := 93) rfl ?_
  exact own_retA X5 hx hby fin hret rfl rfl rfl d_38_3__93 (by decide) (by decide) (by exact ⟨b2, rfl, N5, KK5, sz_b2, E5, F15, F25, F35⟩)
theorem ef_rmOC0 (m : MethodId) (x0 : Addr) (x1 : Int32) : entryFrame m #[(.ref x0), (.int x1)] 7 = mkF m 0 #[.val (.ref x0), .val (.int x1), .unset, .unset, .unset, .unset, .unset] [] := by first | (simp [entryFrame, mkF, argsToLocals, Value.category]; done) | rfl
theorem d_38_3__25 : decode prog_38_method_3_code 25 = .ok (.iload_n 1, 1) := by decide +kernel
theorem d_38_3__26 : decode prog_38_method_3_code 26 = .ok (.newarray .int, 2) := by decide +kernel
theorem d_38_3__28 : decode prog_38_method_3_code 28 = .ok (.astore_n 3, 1) := by decide +kernel
theorem d_38_3__29 : decode prog_38_method_3_code 29 = .ok (.iload_n 1, 1) := by decide +kernel
theorem d_38_3__30 : decode prog_38_method_3_code 30 = .ok (.newarray .int, 2) := by decide +kernel
theorem d_38_3__32 : decode prog_38_method_3_code 32 = .ok (.astore 4, 2) := by decide +kernel
theorem d_38_3__34 : decode prog_38_method_3_code 34 = .ok (.iconst 0, 1) := by decide +kernel
theorem d_38_3__35 : decode prog_38_method_3_code 35 = .ok (.istore 5, 2) := by decide +kernel
theorem d_38_3__37 : decode prog_38_method_3_code 37 = .ok (.iconst 0, 1) := by decide +kernel
theorem d_38_3__38 : decode prog_38_method_3_code 38 = .ok (.istore 6, 2) := by decide +kernel
theorem d_38_3__40 : decode prog_38_method_3_code 40 = .ok (.iload 6, 2) := by decide +kernel
theorem d_38_3__42 : decode prog_38_method_3_code 42 = .ok (.aload_n 0, 1) := by decide +kernel
theorem d_38_3__43 : decode prog_38_method_3_code 43 = .ok (.arraylength, 1) := by decide +kernel
theorem d_38_3__44 : decode prog_38_method_3_code 44 = .ok (.if_icmp .ge 34, 3) := by decide +kernel
theorem d_38_3__47 : decode prog_38_method_3_code 47 = .ok (.aload_n 0, 1) := by decide +kernel
theorem d_38_3__48 : decode prog_38_method_3_code 48 = .ok (.iload 6, 2) := by decide +kernel
theorem d_38_3__50 : decode prog_38_method_3_code 50 = .ok (.iaload, 1) := by decide +kernel
theorem d_38_3__51 : decode prog_38_method_3_code 51 = .ok (.ifCond .le 21, 3) := by decide +kernel
theorem d_38_3__72 : decode prog_38_method_3_code 72 = .ok (.iinc 6 1, 3) := by decide +kernel
theorem d_38_3__75 : decode prog_38_method_3_code 75 = .ok (.goto (-35), 3) := by decide +kernel
theorem d_38_3__78 : decode prog_38_method_3_code 78 = .ok (.new 8, 3) := by decide +kernel
theorem d_38_3__81 : decode prog_38_method_3_code 81 = .ok (.dup, 1) := by decide +kernel
theorem d_38_3__82 : decode prog_38_method_3_code 82 = .ok (.aload_n 0, 1) := by decide +kernel
theorem d_38_3__83 : decode prog_38_method_3_code 83 = .ok (.arraylength, 1) := by decide +kernel
theorem d_38_3__84 : decode prog_38_method_3_code 84 = .ok (.aload_n 3, 1) := by decide +kernel
theorem d_38_3__85 : decode prog_38_method_3_code 85 = .ok (.aload 4, 2) := by decide +kernel
theorem d_38_3__87 : decode prog_38_method_3_code 87 = .ok (.iload_n 1, 1) := by decide +kernel
theorem d_38_3__88 : decode prog_38_method_3_code 88 = .ok (.invokespecial 62, 3) := by decide +kernel
theorem d_38_3__91 : decode prog_38_method_3_code 91 = .ok (.astore_n 2, 1) := by decide +kernel
set_option maxRecDepth 65536 in
set_option maxHeartbeats 40000000 in
theorem rmOC0 (l : Launch) (Z : State) (a0 : Array Value) (hw : ∀ d ∈ tables_1, d.before a0 Z = true) (ar : Addr) (x y : Int32) (n0 : Nat) (h0 : Heap) (hx1 : ¬ (0 : Int32) < x) (hy1 : ¬ (0 : Int32) < y) (Z0 : n0 ≤ h0.size) (V : AV Z h0 ar .int [.int x, .int y]) : Con l Z (⟨"com/example/tracemass/tracemass/nets/Marking", "ofCounts", "([II)Lcom/example/tracemass/tracemass/nets/Marking;"⟩ : MethodName) prog_38_method_3_code 7 (some (.object "com/example/tracemass/tracemass/nets/Marking")) [] ({ frames := 4, cells := 3, slots := 5, locals := 80 } : Room) #[(.ref ar), (.int (0 : Int32))] h0 (fun v h L => ∃ mk ma ct : Addr, v = some (.ref mk) ∧ Fr n0 L ∧ Keep h0 h [] ∧ h0.size ≤ mk ∧ h0.size ≤ ct ∧ Exa Z h mk "com/example/tracemass/tracemass/nets/Marking" ∧ Fld Z h mk "com/example/tracemass/tracemass/nets/Marking" "marked" "[I" (.ref ma) ∧ Fld Z h mk "com/example/tracemass/tracemass/nets/Marking" "counts" "[I" (.ref ct) ∧ Fld Z h mk "com/example/tracemass/tracemass/nets/Marking" "markedCount" "I" (.int (0 : Int32)) ∧ AV Z h ct .int []) := by
  refine Con.of (plainFor_of_name pn_com_example_tracemass_tracemass_nets_Marking) ?_
  intro p e s m below meth c T X hx hby hml hown hnm hret eT hZ hsh Φ fin
  replace hown : s.vm.findClass "com/example/tracemass/tracemass/nets/Marking" = some m.cls := hown
  replace hml : 7 = c.maxLocals := hml.symm
  refine own_step (fun tq kq => castTop (ef_rmOC0 m ar (0 : Int32)) kq) ?_
  have N0 := Fr.nil n0
  have K0 : Keep h0 h0 [] := Keep.refl h0 []
  refine own_aloadN X hx hby d_38_3__0 rfl rfl (pc' := 1) rfl ?_
  refine own_alen X hx hby hZ eT (n := (2 : Int32)) V rfl d_38_3__1 (pc' := 2) rfl ?_
  refine own_iloadN X hx hby d_38_3__2 rfl (pc' := 3) rfl ?_
  refine own_callS X hx hby hZ (by exact hml) hown (own_w hw 6 rfl) (own_w hw 7 rfl) (own_w hw 4 rfl) (own_w hw 8 rfl) (by decide) eT 0 (by decide) (by decide) (by decide) (by decide) (argsL := [(.int (2 : Int32)), (.int (0 : Int32))]) (rest := []) (lenOf pd__II_Z rfl) rfl (rmKP0 l Z a0 hw h0) (Nat.le_of_eq rfl) d_38_3__3 (pc' := 6) rfl ?_
  intro v1 T1 L1 X1 hQ1
  obtain ⟨rfl, rfl, e1⟩ := hQ1
  rw [List.append_nil] at X1
  replace e1 : T1.heap = h0 := e1
  show GoP p e below Φ (T1.setTop (mkF m 6 #[.val (.ref ar), .val (.int (0 : Int32)), .unset, .unset, .unset, .unset, .unset] [(.int (0 : Int32))]))
  refine own_ifY X1 hx hby d_38_3__6 ((if0 _ _).trans (teq (by decide)).1) (by decide) (pc' := 25) (by decide) ?_
  refine own_iloadN X1 hx hby d_38_3__25 rfl (pc' := 26) rfl ?_
  refine own_newI X1 hx hby hZ (own_w hw 1 rfl) e1 (by decide) 0 (by decide) (by decide) (by decide) (by decide) d_38_3__26 (pc' := 28) rfl ?_
  intro T2 h2 b2 X2 e2 E2 g2 V2 I2 A2
  have ne_ar_b2 : ar ≠ b2 := Nat.ne_of_lt (g2 ▸ V.lt)
  have V3_ar := V.ext E2
  have Z2 : n0 ≤ h2.size := Nat.le_trans Z0 E2.1
  have n0_b2 : n0 ≤ b2 := g2 ▸ Z0
  have sz_b2 : h0.size ≤ b2 := g2 ▸ K0.1
  have K2 : Keep h0 h2 [] := K0.ext E2
  replace V2 : AV Z h2 b2 .int [] := V2
  show GoP p e below Φ (T2.setTop (mkF m 28 #[.val (.ref ar), .val (.int (0 : Int32)), .unset, .unset, .unset, .unset, .unset] [(.ref b2)]))
  refine own_astoreN X2 hx hby d_38_3__28 rfl (Ls' := #[.val (.ref ar), .val (.int (0 : Int32)), .unset, .val (.ref b2), .unset, .unset, .unset]) rfl (pc' := 29) rfl ?_
  refine own_iloadN X2 hx hby d_38_3__29 rfl (pc' := 30) rfl ?_
  refine own_newI X2 hx hby hZ (own_w hw 1 rfl) e2 (by decide) 0 (by decide) (by decide) (by decide) (by decide) d_38_3__30 (pc' := 32) rfl ?_
  intro T4 h4 b4 X4 e4 E4 g4 V4 I4 A4
  have ne_ar_b4 : ar ≠ b4 := Nat.ne_of_lt (g4 ▸ V3_ar.lt)
  have ne_b2_b4 : b2 ≠ b4 := Nat.ne_of_lt (g4 ▸ V2.lt)
  have V5_ar := V3_ar.ext E4
  have V6_b2 := V2.ext E4
  have E7_b2 := A2.ext E4
  have Z4 : n0 ≤ h4.size := Nat.le_trans Z2 E4.1
  have n0_b4 : n0 ≤ b4 := g4 ▸ Z2
  have sz_b4 : h0.size ≤ b4 := g4 ▸ K2.1
  have K4 : Keep h0 h4 [] := K2.ext E4
  replace V4 : AV Z h4 b4 .int [] := V4
  show GoP p e below Φ (T4.setTop (mkF m 32 #[.val (.ref ar), .val (.int (0 : Int32)), .unset, .val (.ref b2), .unset, .unset, .unset] [(.ref b4)]))
  refine own_astore X4 hx hby d_38_3__32 rfl (Ls' := #[.val (.ref ar), .val (.int (0 : Int32)), .unset, .val (.ref b2), .val (.ref b4), .unset, .unset]) rfl (pc' := 34) rfl ?_
  refine own_iconst X4 hx hby d_38_3__34 (v := (0 : Int32)) rfl (pc' := 35) rfl ?_
  refine own_istore X4 hx hby d_38_3__35  (Ls' := #[.val (.ref ar), .val (.int (0 : Int32)), .unset, .val (.ref b2), .val (.ref b4), .val (.int (0 : Int32)), .unset]) rfl (pc' := 37) rfl ?_
  refine own_iconst X4 hx hby d_38_3__37 (v := (0 : Int32)) rfl (pc' := 38) rfl ?_
  refine own_istore X4 hx hby d_38_3__38  (Ls' := #[.val (.ref ar), .val (.int (0 : Int32)), .unset, .val (.ref b2), .val (.ref b4), .val (.int (0 : Int32)), .val (.int (0 : Int32))]) rfl (pc' := 40) rfl ?_
  refine own_iload X4 hx hby d_38_3__40 rfl (pc' := 42) rfl ?_
  refine own_aloadN X4 hx hby d_38_3__42 rfl rfl (pc' := 43) rfl ?_
  refine own_alen X4 hx hby hZ e4 (n := (2 : Int32)) V5_ar rfl d_38_3__43 (pc' := 44) rfl ?_
  refine own_icmpN X4 hx hby d_38_3__44 (tlt (by decide)).2.1 (pc' := 47) rfl ?_
  refine own_aloadN X4 hx hby d_38_3__47 rfl rfl (pc' := 48) rfl ?_
  refine own_iload X4 hx hby d_38_3__48 rfl (pc' := 50) rfl ?_
  refine own_iaload X4 hx hby hZ e4 V5_ar (by decide) (v := (.int x)) rfl d_38_3__50 (pc' := 51) rfl ?_
  refine own_ifY X4 hx hby d_38_3__51 ((if0 _ _).trans (flt hx1).2.2.2) (by decide) (pc' := 72) (by decide) ?_
  refine own_iinc X4 hx hby d_38_3__72 rfl (v := (1 : Int32)) rfl (Ls' := #[.val (.ref ar), .val (.int (0 : Int32)), .unset, .val (.ref b2), .val (.ref b4), .val (.int (0 : Int32)), .val (.int (1 : Int32))]) rfl (pc' := 75) rfl ?_
  refine own_goto X4 hx hby d_38_3__75 (by decide) (pc' := 40) (by decide) ?_
  refine own_iload X4 hx hby d_38_3__40 rfl (pc' := 42) rfl ?_
  refine own_aloadN X4 hx hby d_38_3__42 rfl rfl (pc' := 43) rfl ?_
  refine own_alen X4 hx hby hZ e4 (n := (2 : Int32)) V5_ar rfl d_38_3__43 (pc' := 44) rfl ?_
  refine own_icmpN X4 hx hby d_38_3__44 (tlt (by decide)).2.1 (pc' := 47) rfl ?_
  refine own_aloadN X4 hx hby d_38_3__47 rfl rfl (pc' := 48) rfl ?_
  refine own_iload X4 hx hby d_38_3__48 rfl (pc' := 50) rfl ?_
  refine own_iaload X4 hx hby hZ e4 V5_ar (by decide) (v := (.int y)) rfl d_38_3__50 (pc' := 51) rfl ?_
  refine own_ifY X4 hx hby d_38_3__51 ((if0 _ _).trans (flt hy1).2.2.2) (by decide) (pc' := 72) (by decide) ?_
  refine own_iinc X4 hx hby d_38_3__72 rfl (v := (1 : Int32)) rfl (Ls' := #[.val (.ref ar), .val (.int (0 : Int32)), .unset, .val (.ref b2), .val (.ref b4), .val (.int (0 : Int32)), .val (.int (2 : Int32))]) rfl (pc' := 75) rfl ?_
  refine own_goto X4 hx hby d_38_3__75 (by decide) (pc' := 40) (by decide) ?_
  refine own_iload X4 hx hby d_38_3__40 rfl (pc' := 42) rfl ?_
  refine own_aloadN X4 hx hby d_38_3__42 rfl rfl (pc' := 43) rfl ?_
  refine own_alen X4 hx hby hZ e4 (n := (2 : Int32)) V5_ar rfl d_38_3__43 (pc' := 44) rfl ?_
  refine own_icmpY X4 hx hby d_38_3__44 (flt (by decide)).2.1 (by decide) (pc' := 78) (by decide) ?_
  obtain ⟨T8, h8, X8, e8, E8, A8, D8, -, st8⟩ := newO X4 hx hZ hown (own_w hw 22 rfl) (own_w hw 23 rfl) (own_w hw 4 rfl) e4 (g := (mkF m 78 #[.val (.ref ar), .val (.int (0 : Int32)), .unset, .val (.ref b2), .val (.ref b4), .val (.int (0 : Int32)), .val (.int (2 : Int32))] [])) rfl (hb hby d_38_3__78) (by decide) (by decide)
  obtain ⟨b8, g8⟩ : ∃ z, z = h4.size := ⟨_, rfl⟩
  have ne_ar_b8 : ar ≠ b8 := Nat.ne_of_lt (g8 ▸ V5_ar.lt)
  have ne_b2_b8 : b2 ≠ b8 := Nat.ne_of_lt (g8 ▸ V6_b2.lt)
  have ne_b4_b8 : b4 ≠ b8 := Nat.ne_of_lt (g8 ▸ V4.lt)
  have V9_ar := V5_ar.ext E8
  have V10_b2 := V6_b2.ext E8
  have E11_b2 := E7_b2.ext E8
  have V12_b4 := V4.ext E8
  have E13_b4 := A4.ext E8
  have Z8 : n0 ≤ h8.size := Nat.le_trans Z4 E8.1
  have n0_b8 : n0 ≤ b8 := g8 ▸ Z4
  have sz_b8 : h0.size ≤ b8 := g8 ▸ K4.1
  have K8 : Keep h0 h8 [] := K4.ext E8
  rw [← g8] at A8 D8 st8
  refine own_step st8 ?_
  have F8_places : Fld Z h8 b8 "com/example/tracemass/tracemass/nets/Marking" "places" "I" (.int (0 : Int32)) := D8 (Or.inr (own_w hw 31 rfl)) (ty := .int) (by decide)
  have F8_marked : Fld Z h8 b8 "com/example/tracemass/tracemass/nets/Marking" "marked" "[I" .null := D8 (Or.inr (own_w hw 33 rfl)) (ty := (.array .int)) (by decide)
  have F8_counts : Fld Z h8 b8 "com/example/tracemass/tracemass/nets/Marking" "counts" "[I" .null := D8 (Or.inr (own_w hw 35 rfl)) (ty := (.array .int)) (by decide)
  have F8_markedCount : Fld Z h8 b8 "com/example/tracemass/tracemass/nets/Marking" "markedCount" "I" (.int (0 : Int32)) := D8 (Or.inr (own_w hw 37 rfl)) (ty := .int) (by decide)
  have F8_hash : Fld Z h8 b8 "com/example/tracemass/tracemass/nets/Marking" "hash" "I" (.int (0 : Int32)) := D8 (Or.inr (own_w hw 51 rfl)) (ty := .int) (by decide)
  show GoP p e below Φ (T8.setTop (mkF m 81 #[.val (.ref ar), .val (.int (0 : Int32)), .unset, .val (.ref b2), .val (.ref b4), .val (.int (0 : Int32)), .val (.int (2 : Int32))] [(.ref b8)]))
  refine own_dup X8 hx hby d_38_3__81 rfl (pc' := 82) rfl ?_
  refine own_aloadN X8 hx hby d_38_3__82 rfl rfl (pc' := 83) rfl ?_
  refine own_alen X8 hx hby hZ e8 (n := (2 : Int32)) V9_ar rfl d_38_3__83 (pc' := 84) rfl ?_
  refine own_aloadN X8 hx hby d_38_3__84 rfl rfl (pc' := 85) rfl ?_
  refine own_aload X8 hx hby d_38_3__85 rfl rfl (pc' := 87) rfl ?_
  refine own_iloadN X8 hx hby d_38_3__87 rfl (pc' := 88) rfl ?_
  refine own_callI X8 hx hby hZ (by exact hml) hown rfl (own_w hw 24 rfl) (own_w hw 25 rfl) (own_w hw 4 rfl) (own_w hw 26 rfl) (by decide) e8 1 (by decide) (by decide) (by decide) (by decide) (argsL := [(.int (2 : Int32)), (.ref b2), (.ref b4), (.int (0 : Int32))]) (rest := [(.ref b8)]) (lenOf pd__I_I_II_V rfl) rfl (Nat.le_of_eq rfl) (rmMS l Z a0 hw b8 b2 b4 (0 : Int32) n0 h8 ne_b2_b8 V10_b2 n0_b8 A8 F8_places F8_marked F8_counts F8_markedCount F8_hash) d_38_3__88 (pc' := 91) rfl ?_
  intro v14 T14 L14 X14 hQ14
  obtain ⟨rfl, Nq14, K14, E14, F114, F214, F314⟩ := hQ14
  have V15_ar := V9_ar.keep K14 (ninS ne_ar_b8 nin0)
  have V16_b2 := V10_b2.keep K14 (ninS ne_b2_b8 nin0)
  have E17_b2 := E11_b2.keep K14
  have V18_b4 := V12_b4.keep K14 (ninS ne_b4_b8 nin0)
  have E19_b4 := E13_b4.keep K14
  have N14 := Fr.app N0 Nq14
  have Z14 : n0 ≤ T14.heap.size := Nat.le_trans Z8 K14.1
  have KK14 : Keep h0 T14.heap [] := K8.trans K14 (allS (Or.inr sz_b8) all0)
  show GoP p e below Φ (T14.setTop (mkF m 91 #[.val (.ref ar), .val (.int (0 : Int32)), .unset, .val (.ref b2), .val (.ref b4), .val (.int (0 : Int32)), .val (.int (2 : Int32))] [(.ref b8)]))
  refine own_astoreN X14 hx hby d_38_3__91 rfl (Ls' := #[.val (.ref ar), .val (.int (0 : Int32)), .val (.ref b8), .val (.ref b2), .val (.ref b4), .val (.int (0 : Int32)), .val (.int (2 : Int32))]) rfl (pc' := 92) rfl ?_
  refine own_aloadN X14 hx hby d_38_3__92 rfl rfl (pc' := 93) rfl ?_
  exact own_retA X14 hx hby fin hret rfl rfl rfl d_38_3__93 (by decide) (by decide) (by exact ⟨b8, b2, b4, rfl, N14, KK14, sz_b8, sz_b4, E14, F114, F214, F314, V18_b4⟩)
theorem ef_rmOf (m : MethodId) (x0 : Addr) : entryFrame m #[(.ref x0)] 6 = mkF m 0 #[.val (.ref x0), .unset, .unset, .unset, .unset, .unset] [] := by first | (simp [entryFrame, mkF, argsToLocals, Value.category]; done) | rfl
theorem d_38_2__0 : decode prog_38_method_2_code 0 = .ok (.iconst 0, 1) := by decide +kernel
theorem d_38_2__1 : decode prog_38_method_2_code 1 = .ok (.istore_n 1, 1) := by decide +kernel
theorem d_38_2__2 : decode prog_38_method_2_code 2 = .ok (.aload_n 0, 1) := by decide +kernel
theorem d_38_2__3 : decode prog_38_method_2_code 3 = .ok (.astore_n 2, 1) := by decide +kernel
theorem d_38_2__4 : decode prog_38_method_2_code 4 = .ok (.aload_n 2, 1) := by decide +kernel
theorem d_38_2__5 : decode prog_38_method_2_code 5 = .ok (.arraylength, 1) := by decide +kernel
theorem d_38_2__6 : decode prog_38_method_2_code 6 = .ok (.istore_n 3, 1) := by decide +kernel
theorem d_38_2__7 : decode prog_38_method_2_code 7 = .ok (.iconst 0, 1) := by decide +kernel
theorem d_38_2__8 : decode prog_38_method_2_code 8 = .ok (.istore 4, 2) := by decide +kernel
theorem d_38_2__10 : decode prog_38_method_2_code 10 = .ok (.iload 4, 2) := by decide +kernel
theorem d_38_2__12 : decode prog_38_method_2_code 12 = .ok (.iload_n 3, 1) := by decide +kernel
theorem d_38_2__13 : decode prog_38_method_2_code 13 = .ok (.if_icmp .ge 45, 3) := by decide +kernel
theorem d_38_2__16 : decode prog_38_method_2_code 16 = .ok (.aload_n 2, 1) := by decide +kernel
theorem d_38_2__17 : decode prog_38_method_2_code 17 = .ok (.iload 4, 2) := by decide +kernel
theorem d_38_2__19 : decode prog_38_method_2_code 19 = .ok (.iaload, 1) := by decide +kernel
theorem d_38_2__20 : decode prog_38_method_2_code 20 = .ok (.istore 5, 2) := by decide +kernel
theorem d_38_2__22 : decode prog_38_method_2_code 22 = .ok (.iload 5, 2) := by decide +kernel
theorem d_38_2__24 : decode prog_38_method_2_code 24 = .ok (.ifCond .ge 20, 3) := by decide +kernel
theorem d_38_2__44 : decode prog_38_method_2_code 44 = .ok (.iload 5, 2) := by decide +kernel
theorem d_38_2__46 : decode prog_38_method_2_code 46 = .ok (.ifCond .le 6, 3) := by decide +kernel
theorem d_38_2__49 : decode prog_38_method_2_code 49 = .ok (.iinc 1 1, 3) := by decide +kernel
theorem d_38_2__52 : decode prog_38_method_2_code 52 = .ok (.iinc 4 1, 3) := by decide +kernel
theorem d_38_2__55 : decode prog_38_method_2_code 55 = .ok (.goto (-45), 3) := by decide +kernel
theorem d_38_2__58 : decode prog_38_method_2_code 58 = .ok (.aload_n 0, 1) := by decide +kernel
theorem d_38_2__59 : decode prog_38_method_2_code 59 = .ok (.arraylength, 1) := by decide +kernel
theorem d_38_2__60 : decode prog_38_method_2_code 60 = .ok (.iload_n 1, 1) := by decide +kernel
theorem d_38_2__61 : decode prog_38_method_2_code 61 = .ok (.invokestatic 49, 3) := by decide +kernel
theorem d_38_2__64 : decode prog_38_method_2_code 64 = .ok (.ifCond .eq 13, 3) := by decide +kernel
theorem d_38_2__67 : decode prog_38_method_2_code 67 = .ok (.aload_n 0, 1) := by decide +kernel
theorem d_38_2__68 : decode prog_38_method_2_code 68 = .ok (.invokevirtual 53, 3) := by decide +kernel
theorem d_38_2__71 : decode prog_38_method_2_code 71 = .ok (.checkcast 54, 3) := by decide +kernel
theorem d_38_2__74 : decode prog_38_method_2_code 74 = .ok (.goto 4, 3) := by decide +kernel
theorem d_38_2__78 : decode prog_38_method_2_code 78 = .ok (.iload_n 1, 1) := by decide +kernel
theorem d_38_2__79 : decode prog_38_method_2_code 79 = .ok (.invokestatic 58, 3) := by decide +kernel
theorem pd___II_Lcom_example_tracemass_tracemass_nets_Marking_ : parseMethodDescriptor "([II)Lcom/example/tracemass/tracemass/nets/Marking;" = some ⟨[(.array .int), .int], some (.object "com/example/tracemass/tracemass/nets/Marking")⟩ := by decide +kernel
theorem d_38_2__82 : decode prog_38_method_2_code 82 = .ok (.areturn, 1) := by decide +kernel
theorem d_38_2__77 : decode prog_38_method_2_code 77 = .ok (.aload_n 0, 1) := by decide +kernel
set_option maxRecDepth 65536 in
set_option maxHeartbeats 40000000 in
theorem rmOf (l : Launch) (Z : State) (a0 : Array Value) (hw : ∀ d ∈ tables_1, d.before a0 Z = true) (ar : Addr) (x y : Int32) (n0 : Nat) (h0 : Heap) (hx0 : ¬ x < (0 : Int32)) (hy0 : ¬ y < (0 : Int32)) (Z0 : n0 ≤ h0.size) (E : Exa Z h0 ar "[I") (V : AV Z h0 ar .int [.int x, .int y]) : Con l Z (⟨"com/example/tracemass/tracemass/nets/Marking", "of", "([I)Lcom/example/tracemass/tracemass/nets/Marking;"⟩ : MethodName) prog_38_method_2_code 6 (some (.object "com/example/tracemass/tracemass/nets/Marking")) [] ({ frames := 5, cells := 4, slots := 9, locals := 104 } : Room) #[(.ref ar)] h0 (fun v h L => ∃ (mk ct : Addr) (mv : Value) (mc : Int32) (vs : List Value), v = some (.ref mk) ∧ Fr n0 L ∧ Keep h0 h [] ∧ h0.size ≤ mk ∧ h0.size ≤ ct ∧ Exa Z h mk "com/example/tracemass/tracemass/nets/Marking" ∧ Fld Z h mk "com/example/tracemass/tracemass/nets/Marking" "marked" "[I" mv ∧ Fld Z h mk "com/example/tracemass/tracemass/nets/Marking" "counts" "[I" (.ref ct) ∧ Fld Z h mk "com/example/tracemass/tracemass/nets/Marking" "markedCount" "I" (.int mc) ∧ AV Z h ct .int vs ∧ own_fm mv mc vs x y) := by
  refine Con.of (plainFor_of_name pn_com_example_tracemass_tracemass_nets_Marking) ?_
  intro p e s m below meth c T X hx hby hml hown hnm hret eT hZ hsh Φ fin
  replace hown : s.vm.findClass "com/example/tracemass/tracemass/nets/Marking" = some m.cls := hown
  replace hml : 6 = c.maxLocals := hml.symm
  refine own_step (fun tq kq => castTop (ef_rmOf m ar) kq) ?_
  have N0 := Fr.nil n0
  have K0 : Keep h0 h0 [] := Keep.refl h0 []
  refine own_iconst X hx hby d_38_2__0 (v := (0 : Int32)) rfl (pc' := 1) rfl ?_
  refine own_istoreN X hx hby d_38_2__1  (Ls' := #[.val (.ref ar), .val (.int (0 : Int32)), .unset, .unset, .unset, .unset]) rfl (pc' := 2) rfl ?_
  refine own_aloadN X hx hby d_38_2__2 rfl rfl (pc' := 3) rfl ?_
  refine own_astoreN X hx hby d_38_2__3 rfl (Ls' := #[.val (.ref ar), .val (.int (0 : Int32)), .val (.ref ar), .unset, .unset, .unset]) rfl (pc' := 4) rfl ?_
  refine own_aloadN X hx hby d_38_2__4 rfl rfl (pc' := 5) rfl ?_
  refine own_alen X hx hby hZ eT (n := (2 : Int32)) V rfl d_38_2__5 (pc' := 6) rfl ?_
  refine own_istoreN X hx hby d_38_2__6  (Ls' := #[.val (.ref ar), .val (.int (0 : Int32)), .val (.ref ar), .val (.int (2 : Int32)), .unset, .unset]) rfl (pc' := 7) rfl ?_
  refine own_iconst X hx hby d_38_2__7 (v := (0 : Int32)) rfl (pc' := 8) rfl ?_
  refine own_istore X hx hby d_38_2__8  (Ls' := #[.val (.ref ar), .val (.int (0 : Int32)), .val (.ref ar), .val (.int (2 : Int32)), .val (.int (0 : Int32)), .unset]) rfl (pc' := 10) rfl ?_
  refine own_iload X hx hby d_38_2__10 rfl (pc' := 12) rfl ?_
  refine own_iloadN X hx hby d_38_2__12 rfl (pc' := 13) rfl ?_
  refine own_icmpN X hx hby d_38_2__13 (tlt (by decide)).2.1 (pc' := 16) rfl ?_
  refine own_aloadN X hx hby d_38_2__16 rfl rfl (pc' := 17) rfl ?_
  refine own_iload X hx hby d_38_2__17 rfl (pc' := 19) rfl ?_
  refine own_iaload X hx hby hZ eT V (by decide) (v := (.int x)) rfl d_38_2__19 (pc' := 20) rfl ?_
  refine own_istore X hx hby d_38_2__20  (Ls' := #[.val (.ref ar), .val (.int (0 : Int32)), .val (.ref ar), .val (.int (2 : Int32)), .val (.int (0 : Int32)), .val (.int x)]) rfl (pc' := 22) rfl ?_
  refine own_iload X hx hby d_38_2__22 rfl (pc' := 24) rfl ?_
  refine own_ifY X hx hby d_38_2__24 ((if0 _ _).trans (flt hx0).2.1) (by decide) (pc' := 44) (by decide) ?_
  refine own_iload X hx hby d_38_2__44 rfl (pc' := 46) rfl ?_
  by_cases hc46_1 : (0 : Int32) < x
  · refine own_ifN X hx hby d_38_2__46 ((if0 _ _).trans (tlt hc46_1).2.2.2) (pc' := 49) rfl ?_
    refine own_iinc X hx hby d_38_2__49 rfl (v := (1 : Int32)) rfl (Ls' := #[.val (.ref ar), .val (.int (1 : Int32)), .val (.ref ar), .val (.int (2 : Int32)), .val (.int (0 : Int32)), .val (.int x)]) rfl (pc' := 52) rfl ?_
    refine own_iinc X hx hby d_38_2__52 rfl (v := (1 : Int32)) rfl (Ls' := #[.val (.ref ar), .val (.int (1 : Int32)), .val (.ref ar), .val (.int (2 : Int32)), .val (.int (1 : Int32)), .val (.int x)]) rfl (pc' := 55) rfl ?_
    refine own_goto X hx hby d_38_2__55 (by decide) (pc' := 10) (by decide) ?_
    refine own_iload X hx hby d_38_2__10 rfl (pc' := 12) rfl ?_
    refine own_iloadN X hx hby d_38_2__12 rfl (pc' := 13) rfl ?_
    refine own_icmpN X hx hby d_38_2__13 (tlt (by decide)).2.1 (pc' := 16) rfl ?_
    refine own_aloadN X hx hby d_38_2__16 rfl rfl (pc' := 17) rfl ?_
    refine own_iload X hx hby d_38_2__17 rfl (pc' := 19) rfl ?_
    refine own_iaload X hx hby hZ eT V (by decide) (v := (.int y)) rfl d_38_2__19 (pc' := 20) rfl ?_
    refine own_istore X hx hby d_38_2__20  (Ls' := #[.val (.ref ar), .val (.int (1 : Int32)), .val (.ref ar), .val (.int (2 : Int32)), .val (.int (1 : Int32)), .val (.int y)]) rfl (pc' := 22) rfl ?_
    refine own_iload X hx hby d_38_2__22 rfl (pc' := 24) rfl ?_
    refine own_ifY X hx hby d_38_2__24 ((if0 _ _).trans (flt hy0).2.1) (by decide) (pc' := 44) (by decide) ?_
    refine own_iload X hx hby d_38_2__44 rfl (pc' := 46) rfl ?_
    by_cases hc46_2 : (0 : Int32) < y
    · refine own_ifN X hx hby d_38_2__46 ((if0 _ _).trans (tlt hc46_2).2.2.2) (pc' := 49) rfl ?_
      refine own_iinc X hx hby d_38_2__49 rfl (v := (1 : Int32)) rfl (Ls' := #[.val (.ref ar), .val (.int (2 : Int32)), .val (.ref ar), .val (.int (2 : Int32)), .val (.int (1 : Int32)), .val (.int y)]) rfl (pc' := 52) rfl ?_
      refine own_iinc X hx hby d_38_2__52 rfl (v := (1 : Int32)) rfl (Ls' := #[.val (.ref ar), .val (.int (2 : Int32)), .val (.ref ar), .val (.int (2 : Int32)), .val (.int (2 : Int32)), .val (.int y)]) rfl (pc' := 55) rfl ?_
      refine own_goto X hx hby d_38_2__55 (by decide) (pc' := 10) (by decide) ?_
      refine own_iload X hx hby d_38_2__10 rfl (pc' := 12) rfl ?_
      refine own_iloadN X hx hby d_38_2__12 rfl (pc' := 13) rfl ?_
      refine own_icmpY X hx hby d_38_2__13 (flt (by decide)).2.1 (by decide) (pc' := 58) (by decide) ?_
      refine own_aloadN X hx hby d_38_2__58 rfl rfl (pc' := 59) rfl ?_
      refine own_alen X hx hby hZ eT (n := (2 : Int32)) V rfl d_38_2__59 (pc' := 60) rfl ?_
      refine own_iloadN X hx hby d_38_2__60 rfl (pc' := 61) rfl ?_
      refine own_callS X hx hby hZ (by exact hml) hown (own_w hw 6 rfl) (own_w hw 7 rfl) (own_w hw 4 rfl) (own_w hw 8 rfl) (by decide) eT 0 (by decide) (by decide) (by decide) (by decide) (argsL := [(.int (2 : Int32)), (.int (2 : Int32))]) (rest := []) (lenOf pd__II_Z rfl) rfl (rmKP2 l Z a0 hw h0) (Nat.le_of_eq rfl) d_38_2__61 (pc' := 64) rfl ?_
      intro v3 T3 L3 X3 hQ3
      obtain ⟨rfl, rfl, e3⟩ := hQ3
      rw [List.append_nil] at X3
      replace e3 : T3.heap = h0 := e3
      show GoP p e below Φ (T3.setTop (mkF m 64 #[.val (.ref ar), .val (.int (2 : Int32)), .val (.ref ar), .val (.int (2 : Int32)), .val (.int (2 : Int32)), .val (.int y)] [(.int (1 : Int32))]))
      refine own_ifN X3 hx hby d_38_2__64 ((if0 _ _).trans (feq (by decide)).1) (pc' := 67) rfl ?_
      refine own_aloadN X3 hx hby d_38_2__67 rfl rfl (pc' := 68) rfl ?_
      refine own_cloneI X3 hx hby hZ (by exact hml) hown (own_w hw 10 rfl) (own_w hw 11 rfl) (own_w hw 15 rfl) (own_w hw 13 rfl) (own_w hw 14 rfl) (own_w hw 16 rfl) e3 V rfl E (by decide) 0 (Nat.le_of_eq rfl) (by decide) 2 (Nat.le_of_ble_eq_true rfl) (by decide) (by decide) d_38_2__68 (pc' := 71) rfl ?_
      intro T4 h4 b4 X4 e4 E4 g4 V4 A4
      have ne_ar_b4 : ar ≠ b4 := Nat.ne_of_lt (g4 ▸ E.lt)
      have E5_ar := E.ext E4
      have V6_ar := V.ext E4
      have Z4 : n0 ≤ h4.size := Nat.le_trans Z0 E4.1
      have n0_b4 : n0 ≤ b4 := g4 ▸ Z0
      have sz_b4 : h0.size ≤ b4 := g4 ▸ K0.1
      have K4 : Keep h0 h4 [] := K0.ext E4
      show GoP p e below Φ (T4.setTop (mkF m 71 #[.val (.ref ar), .val (.int (2 : Int32)), .val (.ref ar), .val (.int (2 : Int32)), .val (.int (2 : Int32)), .val (.int y)] [(.ref b4)]))
      obtain ⟨T7, X7, e7, st7⟩ := castY X4 hx hZ hown (own_w hw 17 rfl) e4 (Ins.self A4) (g := (mkF m 71 #[.val (.ref ar), .val (.int (2 : Int32)), .val (.ref ar), .val (.int (2 : Int32)), .val (.int (2 : Int32)), .val (.int y)] [(.ref b4)])) rfl rfl (hb hby d_38_2__71)
      refine own_step st7 ?_
      show GoP p e below Φ (T7.setTop (mkF m 74 #[.val (.ref ar), .val (.int (2 : Int32)), .val (.ref ar), .val (.int (2 : Int32)), .val (.int (2 : Int32)), .val (.int y)] [(.ref b4)]))
      refine own_goto X7 hx hby d_38_2__74 (by decide) (pc' := 78) (by decide) ?_
      refine own_iloadN X7 hx hby d_38_2__78 rfl (pc' := 79) rfl ?_
      refine own_callS X7 hx hby hZ (by exact hml) hown (own_w hw 19 rfl) (own_w hw 20 rfl) (own_w hw 4 rfl) (own_w hw 21 rfl) (by decide) e7 0 (by decide) (by decide) (by decide) (by decide) (argsL := [(.ref b4), (.int (2 : Int32))]) (rest := []) (lenOf pd___II_Lcom_example_tracemass_tracemass_nets_Marking_ rfl) rfl (rmOC2 l Z a0 hw b4 x y n0 h4 Z4 A4 V4) (Nat.le_of_eq rfl) d_38_2__79 (pc' := 82) rfl ?_
      intro v8 T8 L8 X8 hQ8
      obtain ⟨mk, rfl, Nq8, K8, sm8, E8, F18, F28, F38⟩ := hQ8
      have sz_mk : h0.size ≤ mk := Nat.le_trans K4.1 sm8
      have E9_ar := E5_ar.keep K8
      have V10_ar := V6_ar.keep K8 nin0
      have V11_b4 := V4.keep K8 nin0
      have E12_b4 := A4.keep K8
      have N8 := Fr.app N0 Nq8
      have Z8 : n0 ≤ T8.heap.size := Nat.le_trans Z4 K8.1
      have KK8 : Keep h0 T8.heap [] := K4.trans K8 all0
      show GoP p e below Φ (T8.setTop (mkF m 82 #[.val (.ref ar), .val (.int (2 : Int32)), .val (.ref ar), .val (.int (2 : Int32)), .val (.int (2 : Int32)), .val (.int y)] [(.ref mk)]))
      exact own_retA X8 hx hby fin hret rfl rfl rfl d_38_2__82 (by decide) (by decide) (by exact ⟨mk, b4, .null, (2 : Int32), _, rfl, N8, KK8, sz_mk, sz_b4, E8, F18, F28, F38, V11_b4, Or.inr (Or.inr (Or.inr ⟨rfl, rfl, rfl, hc46_1, hc46_2⟩))⟩)
    · refine own_ifY X hx hby d_38_2__46 ((if0 _ _).trans (flt hc46_2).2.2.2) (by decide) (pc' := 52) (by decide) ?_
      refine own_iinc X hx hby d_38_2__52 rfl (v := (1 : Int32)) rfl (Ls' := #[.val (.ref ar), .val (.int (1 : Int32)), .val (.ref ar), .val (.int (2 : Int32)), .val (.int (2 : Int32)), .val (.int y)]) rfl (pc' := 55) rfl ?_
      refine own_goto X hx hby d_38_2__55 (by decide) (pc' := 10) (by decide) ?_
      refine own_iload X hx hby d_38_2__10 rfl (pc' := 12) rfl ?_
      refine own_iloadN X hx hby d_38_2__12 rfl (pc' := 13) rfl ?_
      refine own_icmpY X hx hby d_38_2__13 (flt (by decide)).2.1 (by decide) (pc' := 58) (by decide) ?_
      refine own_aloadN X hx hby d_38_2__58 rfl rfl (pc' := 59) rfl ?_
      refine own_alen X hx hby hZ eT (n := (2 : Int32)) V rfl d_38_2__59 (pc' := 60) rfl ?_
      refine own_iloadN X hx hby d_38_2__60 rfl (pc' := 61) rfl ?_
      refine own_callS X hx hby hZ (by exact hml) hown (own_w hw 6 rfl) (own_w hw 7 rfl) (own_w hw 4 rfl) (own_w hw 8 rfl) (by decide) eT 0 (by decide) (by decide) (by decide) (by decide) (argsL := [(.int (2 : Int32)), (.int (1 : Int32))]) (rest := []) (lenOf pd__II_Z rfl) rfl (rmKP1 l Z a0 hw h0) (Nat.le_of_eq rfl) d_38_2__61 (pc' := 64) rfl ?_
      intro v13 T13 L13 X13 hQ13
      obtain ⟨rfl, rfl, e13⟩ := hQ13
      rw [List.append_nil] at X13
      replace e13 : T13.heap = h0 := e13
      show GoP p e below Φ (T13.setTop (mkF m 64 #[.val (.ref ar), .val (.int (1 : Int32)), .val (.ref ar), .val (.int (2 : Int32)), .val (.int (2 : Int32)), .val (.int y)] [(.int (1 : Int32))]))
      refine own_ifN X13 hx hby d_38_2__64 ((if0 _ _).trans (feq (by decide)).1) (pc' := 67) rfl ?_
      refine own_aloadN X13 hx hby d_38_2__67 rfl rfl (pc' := 68) rfl ?_
      refine own_cloneI X13 hx hby hZ (by exact hml) hown (own_w hw 10 rfl) (own_w hw 11 rfl) (own_w hw 15 rfl) (own_w hw 13 rfl) (own_w hw 14 rfl) (own_w hw 16 rfl) e13 V rfl E (by decide) 0 (Nat.le_of_eq rfl) (by decide) 2 (Nat.le_of_ble_eq_true rfl) (by decide) (by decide) d_38_2__68 (pc' := 71) rfl ?_
      intro T14 h14 b14 X14 e14 E14 g14 V14 A14
      have ne_ar_b14 : ar ≠ b14 := Nat.ne_of_lt (g14 ▸ E.lt)
      have E15_ar := E.ext E14
      have V16_ar := V.ext E14
      have Z14 : n0 ≤ h14.size := Nat.le_trans Z0 E14.1
      have n0_b14 : n0 ≤ b14 := g14 ▸ Z0
      have sz_b14 : h0.size ≤ b14 := g14 ▸ K0.1
      have K14 : Keep h0 h14 [] := K0.ext E14
      show GoP p e below Φ (T14.setTop (mkF m 71 #[.val (.ref ar), .val (.int (1 : Int32)), .val (.ref ar), .val (.int (2 : Int32)), .val (.int (2 : Int32)), .val (.int y)] [(.ref b14)]))
      obtain ⟨T17, X17, e17, st17⟩ := castY X14 hx hZ hown (own_w hw 17 rfl) e14 (Ins.self A14) (g := (mkF m 71 #[.val (.ref ar), .val (.int (1 : Int32)), .val (.ref ar), .val (.int (2 : Int32)), .val (.int (2 : Int32)), .val (.int y)] [(.ref b14)])) rfl rfl (hb hby d_38_2__71)
      refine own_step st17 ?_
      show GoP p e below Φ (T17.setTop (mkF m 74 #[.val (.ref ar), .val (.int (1 : Int32)), .val (.ref ar), .val (.int (2 : Int32)), .val (.int (2 : Int32)), .val (.int y)] [(.ref b14)]))
      refine own_goto X17 hx hby d_38_2__74 (by decide) (pc' := 78) (by decide) ?_
      refine own_iloadN X17 hx hby d_38_2__78 rfl (pc' := 79) rfl ?_
      refine own_callS X17 hx hby hZ (by exact hml) hown (own_w hw 19 rfl) (own_w hw 20 rfl) (own_w hw 4 rfl) (own_w hw 21 rfl) (by decide) e17 0 (by decide) (by decide) (by decide) (by decide) (argsL := [(.ref b14), (.int (1 : Int32))]) (rest := []) (lenOf pd___II_Lcom_example_tracemass_tracemass_nets_Marking_ rfl) rfl (rmOC1 l Z a0 hw b14 x y n0 h14 Z14 A14 V14) (Nat.le_of_eq rfl) d_38_2__79 (pc' := 82) rfl ?_
      intro v18 T18 L18 X18 hQ18
      obtain ⟨mk, rfl, Nq18, K18, sm18, E18, F118, F218, F318⟩ := hQ18
      have sz_mk : h0.size ≤ mk := Nat.le_trans K14.1 sm18
      have E19_ar := E15_ar.keep K18
      have V20_ar := V16_ar.keep K18 nin0
      have V21_b14 := V14.keep K18 nin0
      have E22_b14 := A14.keep K18
      have N18 := Fr.app N0 Nq18
      have Z18 : n0 ≤ T18.heap.size := Nat.le_trans Z14 K18.1
      have KK18 : Keep h0 T18.heap [] := K14.trans K18 all0
      show GoP p e below Φ (T18.setTop (mkF m 82 #[.val (.ref ar), .val (.int (1 : Int32)), .val (.ref ar), .val (.int (2 : Int32)), .val (.int (2 : Int32)), .val (.int y)] [(.ref mk)]))
      exact own_retA X18 hx hby fin hret rfl rfl rfl d_38_2__82 (by decide) (by decide) (by exact ⟨mk, b14, .null, (1 : Int32), _, rfl, N18, KK18, sz_mk, sz_b14, E18, F118, F218, F318, V21_b14, Or.inr (Or.inl ⟨rfl, rfl, rfl, hc46_1, hc46_2⟩)⟩)
  · refine own_ifY X hx hby d_38_2__46 ((if0 _ _).trans (flt hc46_1).2.2.2) (by decide) (pc' := 52) (by decide) ?_
    refine own_iinc X hx hby d_38_2__52 rfl (v := (1 : Int32)) rfl (Ls' := #[.val (.ref ar), .val (.int (0 : Int32)), .val (.ref ar), .val (.int (2 : Int32)), .val (.int (1 : Int32)), .val (.int x)]) rfl (pc' := 55) rfl ?_
    refine own_goto X hx hby d_38_2__55 (by decide) (pc' := 10) (by decide) ?_
    refine own_iload X hx hby d_38_2__10 rfl (pc' := 12) rfl ?_
    refine own_iloadN X hx hby d_38_2__12 rfl (pc' := 13) rfl ?_
    refine own_icmpN X hx hby d_38_2__13 (tlt (by decide)).2.1 (pc' := 16) rfl ?_
    refine own_aloadN X hx hby d_38_2__16 rfl rfl (pc' := 17) rfl ?_
    refine own_iload X hx hby d_38_2__17 rfl (pc' := 19) rfl ?_
    refine own_iaload X hx hby hZ eT V (by decide) (v := (.int y)) rfl d_38_2__19 (pc' := 20) rfl ?_
    refine own_istore X hx hby d_38_2__20  (Ls' := #[.val (.ref ar), .val (.int (0 : Int32)), .val (.ref ar), .val (.int (2 : Int32)), .val (.int (1 : Int32)), .val (.int y)]) rfl (pc' := 22) rfl ?_
    refine own_iload X hx hby d_38_2__22 rfl (pc' := 24) rfl ?_
    refine own_ifY X hx hby d_38_2__24 ((if0 _ _).trans (flt hy0).2.1) (by decide) (pc' := 44) (by decide) ?_
    refine own_iload X hx hby d_38_2__44 rfl (pc' := 46) rfl ?_
    by_cases hc46_23 : (0 : Int32) < y
    · refine own_ifN X hx hby d_38_2__46 ((if0 _ _).trans (tlt hc46_23).2.2.2) (pc' := 49) rfl ?_
      refine own_iinc X hx hby d_38_2__49 rfl (v := (1 : Int32)) rfl (Ls' := #[.val (.ref ar), .val (.int (1 : Int32)), .val (.ref ar), .val (.int (2 : Int32)), .val (.int (1 : Int32)), .val (.int y)]) rfl (pc' := 52) rfl ?_
      refine own_iinc X hx hby d_38_2__52 rfl (v := (1 : Int32)) rfl (Ls' := #[.val (.ref ar), .val (.int (1 : Int32)), .val (.ref ar), .val (.int (2 : Int32)), .val (.int (2 : Int32)), .val (.int y)]) rfl (pc' := 55) rfl ?_
      refine own_goto X hx hby d_38_2__55 (by decide) (pc' := 10) (by decide) ?_
      refine own_iload X hx hby d_38_2__10 rfl (pc' := 12) rfl ?_
      refine own_iloadN X hx hby d_38_2__12 rfl (pc' := 13) rfl ?_
      refine own_icmpY X hx hby d_38_2__13 (flt (by decide)).2.1 (by decide) (pc' := 58) (by decide) ?_
      refine own_aloadN X hx hby d_38_2__58 rfl rfl (pc' := 59) rfl ?_
      refine own_alen X hx hby hZ eT (n := (2 : Int32)) V rfl d_38_2__59 (pc' := 60) rfl ?_
      refine own_iloadN X hx hby d_38_2__60 rfl (pc' := 61) rfl ?_
      refine own_callS X hx hby hZ (by exact hml) hown (own_w hw 6 rfl) (own_w hw 7 rfl) (own_w hw 4 rfl) (own_w hw 8 rfl) (by decide) eT 0 (by decide) (by decide) (by decide) (by decide) (argsL := [(.int (2 : Int32)), (.int (1 : Int32))]) (rest := []) (lenOf pd__II_Z rfl) rfl (rmKP1 l Z a0 hw h0) (Nat.le_of_eq rfl) d_38_2__61 (pc' := 64) rfl ?_
      intro v24 T24 L24 X24 hQ24
      obtain ⟨rfl, rfl, e24⟩ := hQ24
      rw [List.append_nil] at X24
      replace e24 : T24.heap = h0 := e24
      show GoP p e below Φ (T24.setTop (mkF m 64 #[.val (.ref ar), .val (.int (1 : Int32)), .val (.ref ar), .val (.int (2 : Int32)), .val (.int (2 : Int32)), .val (.int y)] [(.int (1 : Int32))]))
      refine own_ifN X24 hx hby d_38_2__64 ((if0 _ _).trans (feq (by decide)).1) (pc' := 67) rfl ?_
      refine own_aloadN X24 hx hby d_38_2__67 rfl rfl (pc' := 68) rfl ?_
      refine own_cloneI X24 hx hby hZ (by exact hml) hown (own_w hw 10 rfl) (own_w hw 11 rfl) (own_w hw 15 rfl) (own_w hw 13 rfl) (own_w hw 14 rfl) (own_w hw 16 rfl) e24 V rfl E (by decide) 0 (Nat.le_of_eq rfl) (by decide) 2 (Nat.le_of_ble_eq_true rfl) (by decide) (by decide) d_38_2__68 (pc' := 71) rfl ?_
      intro T25 h25 b25 X25 e25 E25 g25 V25 A25
      have ne_ar_b25 : ar ≠ b25 := Nat.ne_of_lt (g25 ▸ E.lt)
      have E26_ar := E.ext E25
      have V27_ar := V.ext E25
      have Z25 : n0 ≤ h25.size := Nat.le_trans Z0 E25.1
      have n0_b25 : n0 ≤ b25 := g25 ▸ Z0
      have sz_b25 : h0.size ≤ b25 := g25 ▸ K0.1
      have K25 : Keep h0 h25 [] := K0.ext E25
      show GoP p e below Φ (T25.setTop (mkF m 71 #[.val (.ref ar), .val (.int (1 : Int32)), .val (.ref ar), .val (.int (2 : Int32)), .val (.int (2 : Int32)), .val (.int y)] [(.ref b25)]))
      obtain ⟨T28, X28, e28, st28⟩ := castY X25 hx hZ hown (own_w hw 17 rfl) e25 (Ins.self A25) (g := (mkF m 71 #[.val (.ref ar), .val (.int (1 : Int32)), .val (.ref ar), .val (.int (2 : Int32)), .val (.int (2 : Int32)), .val (.int y)] [(.ref b25)])) rfl rfl (hb hby d_38_2__71)
      refine own_step st28 ?_
      show GoP p e below Φ (T28.setTop (mkF m 74 #[.val (.ref ar), .val (.int (1 : Int32)), .val (.ref ar), .val (.int (2 : Int32)), .val (.int (2 : Int32)), .val (.int y)] [(.ref b25)]))
      refine own_goto X28 hx hby d_38_2__74 (by decide) (pc' := 78) (by decide) ?_
      refine own_iloadN X28 hx hby d_38_2__78 rfl (pc' := 79) rfl ?_
      refine own_callS X28 hx hby hZ (by exact hml) hown (own_w hw 19 rfl) (own_w hw 20 rfl) (own_w hw 4 rfl) (own_w hw 21 rfl) (by decide) e28 0 (by decide) (by decide) (by decide) (by decide) (argsL := [(.ref b25), (.int (1 : Int32))]) (rest := []) (lenOf pd___II_Lcom_example_tracemass_tracemass_nets_Marking_ rfl) rfl (rmOC1 l Z a0 hw b25 x y n0 h25 Z25 A25 V25) (Nat.le_of_eq rfl) d_38_2__79 (pc' := 82) rfl ?_
      intro v29 T29 L29 X29 hQ29
      obtain ⟨mk, rfl, Nq29, K29, sm29, E29, F129, F229, F329⟩ := hQ29
      have sz_mk : h0.size ≤ mk := Nat.le_trans K25.1 sm29
      have E30_ar := E26_ar.keep K29
      have V31_ar := V27_ar.keep K29 nin0
      have V32_b25 := V25.keep K29 nin0
      have E33_b25 := A25.keep K29
      have N29 := Fr.app N0 Nq29
      have Z29 : n0 ≤ T29.heap.size := Nat.le_trans Z25 K29.1
      have KK29 : Keep h0 T29.heap [] := K25.trans K29 all0
      show GoP p e below Φ (T29.setTop (mkF m 82 #[.val (.ref ar), .val (.int (1 : Int32)), .val (.ref ar), .val (.int (2 : Int32)), .val (.int (2 : Int32)), .val (.int y)] [(.ref mk)]))
      exact own_retA X29 hx hby fin hret rfl rfl rfl d_38_2__82 (by decide) (by decide) (by exact ⟨mk, b25, .null, (1 : Int32), _, rfl, N29, KK29, sz_mk, sz_b25, E29, F129, F229, F329, V32_b25, Or.inr (Or.inr (Or.inl ⟨rfl, rfl, rfl, hc46_1, hc46_23⟩))⟩)
    · refine own_ifY X hx hby d_38_2__46 ((if0 _ _).trans (flt hc46_23).2.2.2) (by decide) (pc' := 52) (by decide) ?_
      refine own_iinc X hx hby d_38_2__52 rfl (v := (1 : Int32)) rfl (Ls' := #[.val (.ref ar), .val (.int (0 : Int32)), .val (.ref ar), .val (.int (2 : Int32)), .val (.int (2 : Int32)), .val (.int y)]) rfl (pc' := 55) rfl ?_
      refine own_goto X hx hby d_38_2__55 (by decide) (pc' := 10) (by decide) ?_
      refine own_iload X hx hby d_38_2__10 rfl (pc' := 12) rfl ?_
      refine own_iloadN X hx hby d_38_2__12 rfl (pc' := 13) rfl ?_
      refine own_icmpY X hx hby d_38_2__13 (flt (by decide)).2.1 (by decide) (pc' := 58) (by decide) ?_
      refine own_aloadN X hx hby d_38_2__58 rfl rfl (pc' := 59) rfl ?_
      refine own_alen X hx hby hZ eT (n := (2 : Int32)) V rfl d_38_2__59 (pc' := 60) rfl ?_
      refine own_iloadN X hx hby d_38_2__60 rfl (pc' := 61) rfl ?_
      refine own_callS X hx hby hZ (by exact hml) hown (own_w hw 6 rfl) (own_w hw 7 rfl) (own_w hw 4 rfl) (own_w hw 8 rfl) (by decide) eT 0 (by decide) (by decide) (by decide) (by decide) (argsL := [(.int (2 : Int32)), (.int (0 : Int32))]) (rest := []) (lenOf pd__II_Z rfl) rfl (rmKP0 l Z a0 hw h0) (Nat.le_of_eq rfl) d_38_2__61 (pc' := 64) rfl ?_
      intro v34 T34 L34 X34 hQ34
      obtain ⟨rfl, rfl, e34⟩ := hQ34
      rw [List.append_nil] at X34
      replace e34 : T34.heap = h0 := e34
      show GoP p e below Φ (T34.setTop (mkF m 64 #[.val (.ref ar), .val (.int (0 : Int32)), .val (.ref ar), .val (.int (2 : Int32)), .val (.int (2 : Int32)), .val (.int y)] [(.int (0 : Int32))]))
      refine own_ifY X34 hx hby d_38_2__64 ((if0 _ _).trans (teq (by decide)).1) (by decide) (pc' := 77) (by decide) ?_
      refine own_aloadN X34 hx hby d_38_2__77 rfl rfl (pc' := 78) rfl ?_
      refine own_iloadN X34 hx hby d_38_2__78 rfl (pc' := 79) rfl ?_
      refine own_callS X34 hx hby hZ (by exact hml) hown (own_w hw 19 rfl) (own_w hw 20 rfl) (own_w hw 4 rfl) (own_w hw 21 rfl) (by decide) e34 0 (by decide) (by decide) (by decide) (by decide) (argsL := [(.ref ar), (.int (0 : Int32))]) (rest := []) (lenOf pd___II_Lcom_example_tracemass_tracemass_nets_Marking_ rfl) rfl (rmOC0 l Z a0 hw ar x y n0 h0 hc46_1 hc46_23 Z0 V) (Nat.le_of_eq rfl) d_38_2__79 (pc' := 82) rfl ?_
      intro v35 T35 L35 X35 hQ35
      obtain ⟨mk, ma, ct, rfl, Nq35, K35, sm35, sc35, E35, F135, F235, F335, V35⟩ := hQ35
      have sz_mk : h0.size ≤ mk := Nat.le_trans K0.1 sm35
      have sz_ct : h0.size ≤ ct := Nat.le_trans K0.1 sc35
      have E36_ar := E.keep K35
      have V37_ar := V.keep K35 nin0
      have N35 := Fr.app N0 Nq35
      have Z35 : n0 ≤ T35.heap.size := Nat.le_trans Z0 K35.1
      have KK35 : Keep h0 T35.heap [] := K0.trans K35 all0
      show GoP p e below Φ (T35.setTop (mkF m 82 #[.val (.ref ar), .val (.int (0 : Int32)), .val (.ref ar), .val (.int (2 : Int32)), .val (.int (2 : Int32)), .val (.int y)] [(.ref mk)]))
      exact own_retA X35 hx hby fin hret rfl rfl rfl d_38_2__82 (by decide) (by decide) (by exact ⟨mk, ct, .ref ma, (0 : Int32), _, rfl, N35, KK35, sz_mk, sz_ct, E35, F135, F235, F335, V35, Or.inl ⟨rfl, rfl, rfl, rfl, own_eq0 hc46_1 hx0, own_eq0 hc46_23 hy0⟩⟩)
theorem ef_rmPI (m : MethodId) (x0 : Addr) : entryFrame m #[(.ref x0)] 1 = mkF m 0 #[.val (.ref x0)] [] := by first | (simp [entryFrame, mkF, argsToLocals, Value.category]; done) | rfl
theorem d_87_1__0 : decode prog_87_method_1_code 0 = .ok (.aload_n 0, 1) := by decide +kernel
theorem d_87_1__1 : decode prog_87_method_1_code 1 = .ok (.invokespecial 1, 3) := by decide +kernel
theorem d_87_1__4 : decode prog_87_method_1_code 4 = .ok (.aload_n 0, 1) := by decide +kernel
theorem d_87_1__5 : decode prog_87_method_1_code 5 = .ok (.iconst 0, 1) := by decide +kernel
theorem d_87_1__6 : decode prog_87_method_1_code 6 = .ok (.newarray .int, 2) := by decide +kernel
theorem d_87_1__8 : decode prog_87_method_1_code 8 = .ok (.putfield 7, 3) := by decide +kernel
theorem d_87_1__11 : decode prog_87_method_1_code 11 = .ok (.return_, 1) := by decide +kernel
set_option maxRecDepth 65536 in
set_option maxHeartbeats 40000000 in
theorem rmPI (l : Launch) (Z : State) (a0 : Array Value) (hw : ∀ d ∈ tables_1, d.before a0 Z = true) (p1 : Addr) (n0 : Nat) (h0 : Heap) (n0_p1 : n0 ≤ p1) (Z0 : n0 ≤ h0.size) (E : Exa Z h0 p1 "com/example/tracemass/tracemass/qstates/SilentPath$Pairs") (F1 : Fld Z h0 p1 "com/example/tracemass/tracemass/qstates/SilentPath$Pairs" "values" "[I" .null) (F2 : Fld Z h0 p1 "com/example/tracemass/tracemass/qstates/SilentPath$Pairs" "length" "I" (.int (0 : Int32))) : Con l Z (⟨"com/example/tracemass/tracemass/qstates/SilentPath$Pairs", "<init>", "()V"⟩ : MethodName) prog_87_method_1_code 1 none [] ({ frames := 1, cells := 1, slots := 0, locals := 14 } : Room) #[(.ref p1)] h0 (fun v h L => v = none ∧ Fr n0 L ∧ Keep h0 h [p1] ∧ ∃ hv : Addr, h0.size ≤ hv ∧ Exa Z h p1 "com/example/tracemass/tracemass/qstates/SilentPath$Pairs" ∧ Fld Z h p1 "com/example/tracemass/tracemass/qstates/SilentPath$Pairs" "values" "[I" (.ref hv) ∧ Fld Z h p1 "com/example/tracemass/tracemass/qstates/SilentPath$Pairs" "length" "I" (.int (0 : Int32)) ∧ AV Z h hv .int []) := by
  refine Con.of (plainFor_of_name pn_com_example_tracemass_tracemass_qstates_SilentPath_Pairs) ?_
  intro p e s m below meth c T X hx hby hml hown hnm hret eT hZ hsh Φ fin
  replace hown : s.vm.findClass "com/example/tracemass/tracemass/qstates/SilentPath$Pairs" = some m.cls := hown
  replace hml : 1 = c.maxLocals := hml.symm
  refine own_step (fun tq kq => castTop (ef_rmPI m p1) kq) ?_
  have N0 := Fr.nil n0
  have K0 : Keep h0 h0 [p1] := Keep.refl h0 [p1]
  refine own_aloadN X hx hby d_87_1__0 rfl rfl (pc' := 1) rfl ?_
  obtain ⟨T1, X1, e1, st1⟩ := initO X hx hZ hown (own_w hw 106 rfl) (own_w hw 28 rfl) (own_w hw 29 rfl) eT (g := (mkF m 1 #[.val (.ref p1)] [(.ref p1)])) rfl hml rfl (hb hby d_87_1__1) (by decide) (W := 0) (by show 2 * 0 + _ ≤ _; exact Nat.le_of_eq rfl) (by decide)
  refine own_step st1 ?_
  show GoP p e below Φ (T1.setTop (mkF m 4 #[.val (.ref p1)] []))
  refine own_aloadN X1 hx hby d_87_1__4 rfl rfl (pc' := 5) rfl ?_
  refine own_iconst X1 hx hby d_87_1__5 (v := (0 : Int32)) rfl (pc' := 6) rfl ?_
  refine own_newI X1 hx hby hZ (own_w hw 1 rfl) e1 (by decide) 0 (by decide) (by decide) (by decide) (by decide) d_87_1__6 (pc' := 8) rfl ?_
  intro T2 h2 b2 X2 e2 E2 g2 V2 I2 A2
  have ne_p1_b2 : p1 ≠ b2 := Nat.ne_of_lt (g2 ▸ E.lt)
  have E3_p1 := E.ext E2
  have F4_values := F1.ext E2
  have F5_length := F2.ext E2
  have Z2 : n0 ≤ h2.size := Nat.le_trans Z0 E2.1
  have n0_b2 : n0 ≤ b2 := g2 ▸ Z0
  have sz_b2 : h0.size ≤ b2 := g2 ▸ K0.1
  have K2 : Keep h0 h2 [p1] := K0.ext E2
  replace V2 : AV Z h2 b2 .int [] := V2
  show GoP p e below Φ (T2.setTop (mkF m 8 #[.val (.ref p1)] [(.ref b2), (.ref p1)]))
  refine own_putF X2 hx hby hZ hown (host := "") (Or.inl (own_w hw 107 rfl)) Via.refl e2 F4_values E3_p1 (Or.inl (own_w hw 108 rfl)) (own_w hw 101 rfl) (ty := (.array .int)) (by decide) rfl rfl d_87_1__8 (pc' := 11) rfl ?_
  intro T6 h6 X6 e6 W6
  have E7_p1 := E3_p1.wr W6
  have F8_values := F4_values.same W6
  have F9_length := F5_length.other W6 (Or.inr (slot_ne (Or.inl (own_w hw 180 rfl)) (Or.inl (own_w hw 108 rfl)) (by decide) (t := .int) (t' := (.array .int)) (by decide) (by decide)))
  have V10_b2 := V2.other W6 (Ne.symm ne_p1_b2)
  have E11_b2 := A2.wr W6
  have Z6 : n0 ≤ h6.size := by rw [W6.size]; exact Z2
  have N6 := Fr.snoc X6 N0 n0_p1
  have K6 : Keep h0 h6 [p1] := K2.wr W6 (Or.inl (List.mem_of_getElem? (i := 0) rfl))
  exact own_ret0 X6 hx hby fin hret d_87_1__11 (by decide) (by decide) (by rw [e6]; exact ⟨rfl, N6, K6, b2, sz_b2, E7_p1, F8_values, F9_length, V10_b2⟩)
theorem ef_rmSP (m : MethodId) (x0 : Addr) (x1 : Addr) : entryFrame m #[(.ref x0), (.ref x1)] 7 = mkF m 0 #[.val (.ref x0), .val (.ref x1), .unset, .unset, .unset, .unset, .unset] [] := by first | (simp [entryFrame, mkF, argsToLocals, Value.category]; done) | rfl
theorem d_86_1__0 : decode prog_86_method_1_code 0 = .ok (.aload_n 0, 1) := by decide +kernel
theorem d_86_1__1 : decode prog_86_method_1_code 1 = .ok (.invokespecial 1, 3) := by decide +kernel
theorem d_86_1__4 : decode prog_86_method_1_code 4 = .ok (.aload_n 0, 1) := by decide +kernel
theorem d_86_1__5 : decode prog_86_method_1_code 5 = .ok (.bipush 16, 2) := by decide +kernel
theorem d_86_1__7 : decode prog_86_method_1_code 7 = .ok (.anewarray 9, 3) := by decide +kernel
theorem d_86_1__10 : decode prog_86_method_1_code 10 = .ok (.putfield 11, 3) := by decide +kernel
theorem d_86_1__13 : decode prog_86_method_1_code 13 = .ok (.aload_n 0, 1) := by decide +kernel
theorem d_86_1__14 : decode prog_86_method_1_code 14 = .ok (.iconst 5, 1) := by decide +kernel
theorem d_86_1__15 : decode prog_86_method_1_code 15 = .ok (.anewarray 15, 3) := by decide +kernel
theorem d_86_1__18 : decode prog_86_method_1_code 18 = .ok (.putfield 17, 3) := by decide +kernel
theorem d_86_1__21 : decode prog_86_method_1_code 21 = .ok (.aload_n 0, 1) := by decide +kernel
theorem d_86_1__22 : decode prog_86_method_1_code 22 = .ok (.aload_n 0, 1) := by decide +kernel
theorem d_86_1__23 : decode prog_86_method_1_code 23 = .ok (.getfield 11, 3) := by decide +kernel
theorem d_86_1__26 : decode prog_86_method_1_code 26 = .ok (.arraylength, 1) := by decide +kernel
theorem d_86_1__27 : decode prog_86_method_1_code 27 = .ok (.newarray .long, 2) := by decide +kernel
theorem d_86_1__29 : decode prog_86_method_1_code 29 = .ok (.putfield 21, 3) := by decide +kernel
theorem d_86_1__32 : decode prog_86_method_1_code 32 = .ok (.aload_n 0, 1) := by decide +kernel
theorem d_86_1__33 : decode prog_86_method_1_code 33 = .ok (.new 25, 3) := by decide +kernel
theorem d_86_1__36 : decode prog_86_method_1_code 36 = .ok (.dup, 1) := by decide +kernel
theorem d_86_1__37 : decode prog_86_method_1_code 37 = .ok (.invokespecial 27, 3) := by decide +kernel
theorem pd___V : parseMethodDescriptor "()V" = some ⟨[], none⟩ := by decide +kernel
theorem d_86_1__40 : decode prog_86_method_1_code 40 = .ok (.putfield 28, 3) := by decide +kernel
theorem d_86_1__43 : decode prog_86_method_1_code 43 = .ok (.aload_n 0, 1) := by decide +kernel
theorem d_86_1__44 : decode prog_86_method_1_code 44 = .ok (.new 25, 3) := by decide +kernel
theorem d_86_1__47 : decode prog_86_method_1_code 47 = .ok (.dup, 1) := by decide +kernel
theorem d_86_1__48 : decode prog_86_method_1_code 48 = .ok (.invokespecial 27, 3) := by decide +kernel
theorem d_86_1__51 : decode prog_86_method_1_code 51 = .ok (.putfield 32, 3) := by decide +kernel
theorem d_86_1__54 : decode prog_86_method_1_code 54 = .ok (.aload_n 0, 1) := by decide +kernel
theorem d_86_1__55 : decode prog_86_method_1_code 55 = .ok (.aload_n 1, 1) := by decide +kernel
theorem d_86_1__56 : decode prog_86_method_1_code 56 = .ok (.arraylength, 1) := by decide +kernel
theorem d_86_1__57 : decode prog_86_method_1_code 57 = .ok (.putfield 35, 3) := by decide +kernel
theorem d_86_1__60 : decode prog_86_method_1_code 60 = .ok (.iconst (-1), 1) := by decide +kernel
theorem d_86_1__61 : decode prog_86_method_1_code 61 = .ok (.istore_n 2, 1) := by decide +kernel
theorem d_86_1__62 : decode prog_86_method_1_code 62 = .ok (.aload_n 1, 1) := by decide +kernel
theorem d_86_1__63 : decode prog_86_method_1_code 63 = .ok (.astore_n 3, 1) := by decide +kernel
theorem d_86_1__64 : decode prog_86_method_1_code 64 = .ok (.aload_n 3, 1) := by decide +kernel
theorem d_86_1__65 : decode prog_86_method_1_code 65 = .ok (.arraylength, 1) := by decide +kernel
theorem d_86_1__66 : decode prog_86_method_1_code 66 = .ok (.istore 4, 2) := by decide +kernel
theorem d_86_1__68 : decode prog_86_method_1_code 68 = .ok (.iconst 0, 1) := by decide +kernel
theorem d_86_1__69 : decode prog_86_method_1_code 69 = .ok (.istore 5, 2) := by decide +kernel
theorem d_86_1__71 : decode prog_86_method_1_code 71 = .ok (.iload 5, 2) := by decide +kernel
theorem d_86_1__73 : decode prog_86_method_1_code 73 = .ok (.iload 4, 2) := by decide +kernel
theorem d_86_1__75 : decode prog_86_method_1_code 75 = .ok (.if_icmp .ge 22, 3) := by decide +kernel
theorem d_86_1__78 : decode prog_86_method_1_code 78 = .ok (.aload_n 3, 1) := by decide +kernel
theorem d_86_1__79 : decode prog_86_method_1_code 79 = .ok (.iload 5, 2) := by decide +kernel
theorem d_86_1__81 : decode prog_86_method_1_code 81 = .ok (.iaload, 1) := by decide +kernel
theorem d_86_1__82 : decode prog_86_method_1_code 82 = .ok (.istore 6, 2) := by decide +kernel
theorem d_86_1__84 : decode prog_86_method_1_code 84 = .ok (.iload_n 2, 1) := by decide +kernel
theorem d_86_1__85 : decode prog_86_method_1_code 85 = .ok (.iload 6, 2) := by decide +kernel
theorem d_86_1__87 : decode prog_86_method_1_code 87 = .ok (.invokestatic 39, 3) := by decide +kernel
theorem d_86_1__90 : decode prog_86_method_1_code 90 = .ok (.istore_n 2, 1) := by decide +kernel
theorem d_86_1__91 : decode prog_86_method_1_code 91 = .ok (.iinc 5 1, 3) := by decide +kernel
theorem d_86_1__94 : decode prog_86_method_1_code 94 = .ok (.goto (-23), 3) := by decide +kernel
theorem d_86_1__97 : decode prog_86_method_1_code 97 = .ok (.aload_n 0, 1) := by decide +kernel
theorem d_86_1__98 : decode prog_86_method_1_code 98 = .ok (.iload_n 2, 1) := by decide +kernel
theorem d_86_1__99 : decode prog_86_method_1_code 99 = .ok (.iconst 1, 1) := by decide +kernel
theorem d_86_1__100 : decode prog_86_method_1_code 100 = .ok (.iadd, 1) := by decide +kernel
theorem d_86_1__101 : decode prog_86_method_1_code 101 = .ok (.newarray .boolean, 2) := by decide +kernel
theorem d_86_1__103 : decode prog_86_method_1_code 103 = .ok (.putfield 45, 3) := by decide +kernel
theorem d_86_1__106 : decode prog_86_method_1_code 106 = .ok (.aload_n 1, 1) := by decide +kernel
theorem d_86_1__107 : decode prog_86_method_1_code 107 = .ok (.astore_n 3, 1) := by decide +kernel
theorem d_86_1__108 : decode prog_86_method_1_code 108 = .ok (.aload_n 3, 1) := by decide +kernel
theorem d_86_1__109 : decode prog_86_method_1_code 109 = .ok (.arraylength, 1) := by decide +kernel
theorem d_86_1__110 : decode prog_86_method_1_code 110 = .ok (.istore 4, 2) := by decide +kernel
theorem d_86_1__112 : decode prog_86_method_1_code 112 = .ok (.iconst 0, 1) := by decide +kernel
theorem d_86_1__113 : decode prog_86_method_1_code 113 = .ok (.istore 5, 2) := by decide +kernel
theorem d_86_1__115 : decode prog_86_method_1_code 115 = .ok (.iload 5, 2) := by decide +kernel
theorem d_86_1__117 : decode prog_86_method_1_code 117 = .ok (.iload 4, 2) := by decide +kernel
theorem d_86_1__119 : decode prog_86_method_1_code 119 = .ok (.if_icmp .ge 23, 3) := by decide +kernel
theorem d_86_1__122 : decode prog_86_method_1_code 122 = .ok (.aload_n 3, 1) := by decide +kernel
theorem d_86_1__123 : decode prog_86_method_1_code 123 = .ok (.iload 5, 2) := by decide +kernel
theorem d_86_1__125 : decode prog_86_method_1_code 125 = .ok (.iaload, 1) := by decide +kernel
theorem d_86_1__126 : decode prog_86_method_1_code 126 = .ok (.istore 6, 2) := by decide +kernel
theorem d_86_1__128 : decode prog_86_method_1_code 128 = .ok (.aload_n 0, 1) := by decide +kernel
theorem d_86_1__129 : decode prog_86_method_1_code 129 = .ok (.getfield 45, 3) := by decide +kernel
theorem d_86_1__132 : decode prog_86_method_1_code 132 = .ok (.iload 6, 2) := by decide +kernel
theorem d_86_1__134 : decode prog_86_method_1_code 134 = .ok (.iconst 1, 1) := by decide +kernel
theorem d_86_1__135 : decode prog_86_method_1_code 135 = .ok (.bastore, 1) := by decide +kernel
theorem d_86_1__136 : decode prog_86_method_1_code 136 = .ok (.iinc 5 1, 3) := by decide +kernel
theorem d_86_1__139 : decode prog_86_method_1_code 139 = .ok (.goto (-24), 3) := by decide +kernel
theorem d_86_1__142 : decode prog_86_method_1_code 142 = .ok (.aload_n 0, 1) := by decide +kernel
theorem d_86_1__143 : decode prog_86_method_1_code 143 = .ok (.getfield 17, 3) := by decide +kernel
theorem d_86_1__146 : decode prog_86_method_1_code 146 = .ok (.iconst 4, 1) := by decide +kernel
theorem d_86_1__147 : decode prog_86_method_1_code 147 = .ok (.iconst 1, 1) := by decide +kernel
theorem d_86_1__148 : decode prog_86_method_1_code 148 = .ok (.anewarray 49, 3) := by decide +kernel
theorem d_86_1__151 : decode prog_86_method_1_code 151 = .ok (.aastore, 1) := by decide +kernel
theorem d_86_1__152 : decode prog_86_method_1_code 152 = .ok (.return_, 1) := by decide +kernel
set_option maxRecDepth 65536 in
set_option maxHeartbeats 40000000 in
theorem rmSP (l : Launch) (Z : State) (a0 : Array Value) (hw : ∀ d ∈ tables_1, d.before a0 Z = true) (a ia : Addr) (n0 : Nat) (h0 : Heap) (n0_a : n0 ≤ a) (Z0 : n0 ≤ h0.size) (E : Exa Z h0 a "com/example/tracemass/tracemass/qstates/SilentPath") (F_markings : Fld Z h0 a "com/example/tracemass/tracemass/qstates/SilentPath" "markings" "[Lcom/example/tracemass/tracemass/nets/Marking;" .null) (F_fewest : Fld Z h0 a "com/example/tracemass/tracemass/qstates/SilentPath" "fewest" "[[[I" .null) (F_fewestTotal : Fld Z h0 a "com/example/tracemass/tracemass/qstates/SilentPath" "fewestTotal" "[J" .null) (F_held : Fld Z h0 a "com/example/tracemass/tracemass/qstates/SilentPath" "held" "Lcom/example/tracemass/tracemass/qstates/SilentPath$Pairs;" .null) (F_other : Fld Z h0 a "com/example/tracemass/tracemass/qstates/SilentPath" "other" "Lcom/example/tracemass/tracemass/qstates/SilentPath$Pairs;" .null) (F_comparedCount : Fld Z h0 a "com/example/tracemass/tracemass/qstates/SilentPath" "comparedCount" "I" (.int (0 : Int32))) (F_compared : Fld Z h0 a "com/example/tracemass/tracemass/qstates/SilentPath" "compared" "[Z" .null) (F_size : Fld Z h0 a "com/example/tracemass/tracemass/qstates/SilentPath" "size" "I" (.int (0 : Int32))) (V : AV Z h0 ia .int [.int 0, .int 1]) : Con l Z (⟨"com/example/tracemass/tracemass/qstates/SilentPath", "<init>", "([I)V"⟩ : MethodName) prog_86_method_1_code 7 none [] ({ frames := 2, cells := 9, slots := 44, locals := 32 } : Room) #[(.ref a), (.ref ia)] h0 (fun v h L => v = none ∧ Fr n0 L ∧ Keep h0 h [a] ∧ ∃ mks ft hl ot cp hv ov : Addr, h0.size ≤ mks ∧ h0.size ≤ ft ∧ h0.size ≤ hl ∧ h0.size ≤ ot ∧ h0.size ≤ cp ∧ h0.size ≤ hv ∧ h0.size ≤ ov ∧ hl ≠ ot ∧ Exa Z h a "com/example/tracemass/tracemass/qstates/SilentPath" ∧ Fld Z h a "com/example/tracemass/tracemass/qstates/SilentPath" "markings" "[Lcom/example/tracemass/tracemass/nets/Marking;" (.ref mks) ∧ Fld Z h a "com/example/tracemass/tracemass/qstates/SilentPath" "fewestTotal" "[J" (.ref ft) ∧ Fld Z h a "com/example/tracemass/tracemass/qstates/SilentPath" "held" "Lcom/example/tracemass/tracemass/qstates/SilentPath$Pairs;" (.ref hl) ∧ Fld Z h a "com/example/tracemass/tracemass/qstates/SilentPath" "other" "Lcom/example/tracemass/tracemass/qstates/SilentPath$Pairs;" (.ref ot) ∧ Fld Z h a "com/example/tracemass/tracemass/qstates/SilentPath" "comparedCount" "I" (.int (2 : Int32)) ∧ Fld Z h a "com/example/tracemass/tracemass/qstates/SilentPath" "compared" "[Z" (.ref cp) ∧ Fld Z h a "com/example/tracemass/tracemass/qstates/SilentPath" "size" "I" (.int (0 : Int32)) ∧ AV Z h mks (.object "com/example/tracemass/tracemass/nets/Marking") [.null, .null, .null, .null, .null, .null, .null, .null, .null, .null, .null, .null, .null, .null, .null, .null] ∧ CM Z h mks "com/example/tracemass/tracemass/nets/Marking" ∧ AV Z h ft .long [(.long (0 : Int64)), (.long (0 : Int64)), (.long (0 : Int64)), (.long (0 : Int64)), (.long (0 : Int64)), (.long (0 : Int64)), (.long (0 : Int64)), (.long (0 : Int64)), (.long (0 : Int64)), (.long (0 : Int64)), (.long (0 : Int64)), (.long (0 : Int64)), (.long (0 : Int64)), (.long (0 : Int64)), (.long (0 : Int64)), (.long (0 : Int64))] ∧ AV Z h cp .boolean [.int 1, .int 1] ∧ Exa Z h hl "com/example/tracemass/tracemass/qstates/SilentPath$Pairs" ∧ Fld Z h hl "com/example/tracemass/tracemass/qstates/SilentPath$Pairs" "values" "[I" (.ref hv) ∧ Fld Z h hl "com/example/tracemass/tracemass/qstates/SilentPath$Pairs" "length" "I" (.int (0 : Int32)) ∧ AV Z h hv .int [] ∧ Exa Z h ot "com/example/tracemass/tracemass/qstates/SilentPath$Pairs" ∧ Fld Z h ot "com/example/tracemass/tracemass/qstates/SilentPath$Pairs" "values" "[I" (.ref ov) ∧ Fld Z h ot "com/example/tracemass/tracemass/qstates/SilentPath$Pairs" "length" "I" (.int (0 : Int32)) ∧ AV Z h ov .int []) := by
  refine Con.of (plainFor_of_name pn_com_example_tracemass_tracemass_qstates_SilentPath) ?_
  intro p e s m below meth c T X hx hby hml hown hnm hret eT hZ hsh Φ fin
  replace hown : s.vm.findClass "com/example/tracemass/tracemass/qstates/SilentPath" = some m.cls := hown
  replace hml : 7 = c.maxLocals := hml.symm
  refine own_step (fun tq kq => castTop (ef_rmSP m a ia) kq) ?_
  have N0 := Fr.nil n0
  have K0 : Keep h0 h0 [a] := Keep.refl h0 [a]
  refine own_aloadN X hx hby d_86_1__0 rfl rfl (pc' := 1) rfl ?_
  obtain ⟨T1, X1, e1, st1⟩ := initO X hx hZ hown (own_w hw 88 rfl) (own_w hw 28 rfl) (own_w hw 29 rfl) eT (g := (mkF m 1 #[.val (.ref a), .val (.ref ia), .unset, .unset, .unset, .unset, .unset] [(.ref a)])) rfl hml rfl (hb hby d_86_1__1) (by decide) (W := 0) (by show 2 * 0 + _ ≤ _; exact Nat.le_of_eq rfl) (by decide)
  refine own_step st1 ?_
  show GoP p e below Φ (T1.setTop (mkF m 4 #[.val (.ref a), .val (.ref ia), .unset, .unset, .unset, .unset, .unset] []))
  refine own_aloadN X1 hx hby d_86_1__4 rfl rfl (pc' := 5) rfl ?_
  refine own_bipush X1 hx hby d_86_1__5 (v := (16 : Int32)) rfl (pc' := 7) rfl ?_
  refine own_newR X1 hx hby hZ hown (own_w hw 89 rfl) (own_w hw 90 rfl) e1 (by decide) 16 (by decide) (by decide) (by decide) (by decide) d_86_1__7 (pc' := 10) rfl ?_
  intro T2 h2 b2 X2 e2 E2 g2 V2 Y2
  have ne_a_b2 : a ≠ b2 := Nat.ne_of_lt (g2 ▸ E.lt)
  have ne_ia_b2 : ia ≠ b2 := Nat.ne_of_lt (g2 ▸ V.lt)
  have E3_a := E.ext E2
  have V4_ia := V.ext E2
  have F5_markings := F_markings.ext E2
  have F6_fewest := F_fewest.ext E2
  have F7_fewestTotal := F_fewestTotal.ext E2
  have F8_held := F_held.ext E2
  have F9_other := F_other.ext E2
  have F10_comparedCount := F_comparedCount.ext E2
  have F11_compared := F_compared.ext E2
  have F12_size := F_size.ext E2
  have Z2 : n0 ≤ h2.size := Nat.le_trans Z0 E2.1
  have n0_b2 : n0 ≤ b2 := g2 ▸ Z0
  have sz_b2 : h0.size ≤ b2 := g2 ▸ K0.1
  have K2 : Keep h0 h2 [a] := K0.ext E2
  replace V2 : AV Z h2 b2 (.object "com/example/tracemass/tracemass/nets/Marking") [.null, .null, .null, .null, .null, .null, .null, .null, .null, .null, .null, .null, .null, .null, .null, .null] := V2
  show GoP p e below Φ (T2.setTop (mkF m 10 #[.val (.ref a), .val (.ref ia), .unset, .unset, .unset, .unset, .unset] [(.ref b2), (.ref a)]))
  refine own_putF X2 hx hby hZ hown (host := "") (Or.inl (own_w hw 91 rfl)) Via.refl e2 F5_markings E3_a (Or.inl (own_w hw 92 rfl)) (own_w hw 83 rfl) (ty := (.array (.object "com/example/tracemass/tracemass/nets/Marking"))) (by decide) rfl rfl d_86_1__10 (pc' := 13) rfl ?_
  intro T13 h13 X13 e13 W13
  have nt14 : ia ≠ a := (own_ne_av E3_a (own_w hw 83 rfl) V4_ia).symm
  have E15_a := E3_a.wr W13
  have V16_ia := V4_ia.other W13 nt14
  have F17_markings := F5_markings.same W13
  have F18_fewest := F6_fewest.other W13 (Or.inr (slot_ne (Or.inl (own_w hw 96 rfl)) (Or.inl (own_w hw 92 rfl)) (by decide) (t := (.array (.array (.array .int)))) (t' := (.array (.object "com/example/tracemass/tracemass/nets/Marking"))) (by decide) (by decide)))
  have F19_fewestTotal := F7_fewestTotal.other W13 (Or.inr (slot_ne (Or.inl (own_w hw 99 rfl)) (Or.inl (own_w hw 92 rfl)) (by decide) (t := (.array .long)) (t' := (.array (.object "com/example/tracemass/tracemass/nets/Marking"))) (by decide) (by decide)))
  have F20_held := F8_held.other W13 (Or.inr (slot_ne (Or.inr (own_w hw 110 rfl)) (Or.inl (own_w hw 92 rfl)) (by decide) (t := (.object "com/example/tracemass/tracemass/qstates/SilentPath$Pairs")) (t' := (.array (.object "com/example/tracemass/tracemass/nets/Marking"))) (by decide) (by decide)))
  have F21_other := F9_other.other W13 (Or.inr (slot_ne (Or.inr (own_w hw 112 rfl)) (Or.inl (own_w hw 92 rfl)) (by decide) (t := (.object "com/example/tracemass/tracemass/qstates/SilentPath$Pairs")) (t' := (.array (.object "com/example/tracemass/tracemass/nets/Marking"))) (by decide) (by decide)))
  have F22_comparedCount := F10_comparedCount.other W13 (Or.inr (slot_ne (Or.inr (own_w hw 114 rfl)) (Or.inl (own_w hw 92 rfl)) (by decide) (t := .int) (t' := (.array (.object "com/example/tracemass/tracemass/nets/Marking"))) (by decide) (by decide)))
  have F23_compared := F11_compared.other W13 (Or.inr (slot_ne (Or.inr (own_w hw 121 rfl)) (Or.inl (own_w hw 92 rfl)) (by decide) (t := (.array .boolean)) (t' := (.array (.object "com/example/tracemass/tracemass/nets/Marking"))) (by decide) (by decide)))
  have F24_size := F12_size.other W13 (Or.inr (slot_ne (Or.inl (own_w hw 131 rfl)) (Or.inl (own_w hw 92 rfl)) (by decide) (t := .int) (t' := (.array (.object "com/example/tracemass/tracemass/nets/Marking"))) (by decide) (by decide)))
  have V25_b2 := V2.other W13 (Ne.symm ne_a_b2)
  have Y26_b2 := Y2.wr W13
  have Z13 : n0 ≤ h13.size := by rw [W13.size]; exact Z2
  have N13 := Fr.snoc X13 N0 n0_a
  have K13 : Keep h0 h13 [a] := K2.wr W13 (Or.inl (List.mem_of_getElem? (i := 0) rfl))
  refine own_aloadN X13 hx hby d_86_1__13 rfl rfl (pc' := 14) rfl ?_
  refine own_iconst X13 hx hby d_86_1__14 (v := (5 : Int32)) rfl (pc' := 15) rfl ?_
  refine own_newRE X13 hx hby hZ hown (ty := (.array .int)) rfl (own_w hw 93 rfl) (own_w hw 94 rfl) e13 (ad := "[[[I") rfl (by decide) 5 (by decide) (by decide) (by decide) (by decide) d_86_1__15 (pc' := 18) rfl ?_
  intro T27 h27 b27 X27 e27 E27 g27 V27 Y27 Q27
  have ne_a_b27 : a ≠ b27 := Nat.ne_of_lt (g27 ▸ E15_a.lt)
  have ne_ia_b27 : ia ≠ b27 := Nat.ne_of_lt (g27 ▸ V16_ia.lt)
  have ne_b2_b27 : b2 ≠ b27 := Nat.ne_of_lt (g27 ▸ V25_b2.lt)
  have E28_a := E15_a.ext E27
  have V29_ia := V16_ia.ext E27
  have F30_markings := F17_markings.ext E27
  have F31_fewest := F18_fewest.ext E27
  have F32_fewestTotal := F19_fewestTotal.ext E27
  have F33_held := F20_held.ext E27
  have F34_other := F21_other.ext E27
  have F35_comparedCount := F22_comparedCount.ext E27
  have F36_compared := F23_compared.ext E27
  have F37_size := F24_size.ext E27
  have V38_b2 := V25_b2.ext E27
  have Y39_b2 := Y26_b2.ext E27
  have Z27 : n0 ≤ h27.size := Nat.le_trans Z13 E27.1
  have n0_b27 : n0 ≤ b27 := g27 ▸ Z13
  have sz_b27 : h0.size ≤ b27 := g27 ▸ K13.1
  have K27 : Keep h0 h27 [a] := K13.ext E27
  replace V27 : AV Z h27 b27 (.array (.array .int)) [.null, .null, .null, .null, .null] := V27
  show GoP p e below Φ (T27.setTop (mkF m 18 #[.val (.ref a), .val (.ref ia), .unset, .unset, .unset, .unset, .unset] [(.ref b27), (.ref a)]))
  refine own_putF X27 hx hby hZ hown (host := "") (Or.inl (own_w hw 95 rfl)) Via.refl e27 F31_fewest E28_a (Or.inl (own_w hw 96 rfl)) (own_w hw 83 rfl) (ty := (.array (.array (.array .int)))) (by decide) rfl rfl d_86_1__18 (pc' := 21) rfl ?_
  intro T40 h40 X40 e40 W40
  have E41_a := E28_a.wr W40
  have V42_ia := V29_ia.other W40 nt14
  have F43_markings := F30_markings.other W40 (Or.inr (slot_ne (Or.inl (own_w hw 92 rfl)) (Or.inl (own_w hw 96 rfl)) (by decide) (t := (.array (.object "com/example/tracemass/tracemass/nets/Marking"))) (t' := (.array (.array (.array .int)))) (by decide) (by decide)))
  have F44_fewest := F31_fewest.same W40
  have F45_fewestTotal := F32_fewestTotal.other W40 (Or.inr (slot_ne (Or.inl (own_w hw 99 rfl)) (Or.inl (own_w hw 96 rfl)) (by decide) (t := (.array .long)) (t' := (.array (.array (.array .int)))) (by decide) (by decide)))
  have F46_held := F33_held.other W40 (Or.inr (slot_ne (Or.inr (own_w hw 110 rfl)) (Or.inl (own_w hw 96 rfl)) (by decide) (t := (.object "com/example/tracemass/tracemass/qstates/SilentPath$Pairs")) (t' := (.array (.array (.array .int)))) (by decide) (by decide)))
  have F47_other := F34_other.other W40 (Or.inr (slot_ne (Or.inr (own_w hw 112 rfl)) (Or.inl (own_w hw 96 rfl)) (by decide) (t := (.object "com/example/tracemass/tracemass/qstates/SilentPath$Pairs")) (t' := (.array (.array (.array .int)))) (by decide) (by decide)))
  have F48_comparedCount := F35_comparedCount.other W40 (Or.inr (slot_ne (Or.inr (own_w hw 114 rfl)) (Or.inl (own_w hw 96 rfl)) (by decide) (t := .int) (t' := (.array (.array (.array .int)))) (by decide) (by decide)))
  have F49_compared := F36_compared.other W40 (Or.inr (slot_ne (Or.inr (own_w hw 121 rfl)) (Or.inl (own_w hw 96 rfl)) (by decide) (t := (.array .boolean)) (t' := (.array (.array (.array .int)))) (by decide) (by decide)))
  have F50_size := F37_size.other W40 (Or.inr (slot_ne (Or.inl (own_w hw 131 rfl)) (Or.inl (own_w hw 96 rfl)) (by decide) (t := .int) (t' := (.array (.array (.array .int)))) (by decide) (by decide)))
  have V51_b2 := V38_b2.other W40 (Ne.symm ne_a_b2)
  have Y52_b2 := Y39_b2.wr W40
  have V53_b27 := V27.other W40 (Ne.symm ne_a_b27)
  have Y54_b27 := Y27.wr W40
  have E55_b27 := Q27.wr W40
  have Z40 : n0 ≤ h40.size := by rw [W40.size]; exact Z27
  have N40 := Fr.snoc X40 N13 n0_a
  have K40 : Keep h0 h40 [a] := K27.wr W40 (Or.inl (List.mem_of_getElem? (i := 0) rfl))
  refine own_aloadN X40 hx hby d_86_1__21 rfl rfl (pc' := 22) rfl ?_
  refine own_aloadN X40 hx hby d_86_1__22 rfl rfl (pc' := 23) rfl ?_
  refine own_getF X40 hx hby hZ hown (host := "") (Or.inl (own_w hw 91 rfl)) Via.refl e40 F43_markings d_86_1__23 (pc' := 26) rfl ?_
  intro T56 X56 e56
  refine own_alen X56 hx hby hZ e56 (n := (16 : Int32)) V51_b2 rfl d_86_1__26 (pc' := 27) rfl ?_
  obtain ⟨T57, h57, k57, X57, e57, E57, A57, st57⟩ := newP X56 hx hZ (own_w hw 97 rfl) e56 (g := (mkF m 27 #[.val (.ref a), .val (.ref ia), .unset, .unset, .unset, .unset, .unset] [(.int (16 : Int32)), (.ref a)])) rfl (hb hby d_86_1__27) rfl (by decide) (cap := 16) (by decide) (by decide) (by decide) (by decide)
  obtain ⟨b57, g57⟩ : ∃ z, z = h40.size := ⟨_, rfl⟩
  have ne_a_b57 : a ≠ b57 := Nat.ne_of_lt (g57 ▸ E41_a.lt)
  have ne_ia_b57 : ia ≠ b57 := Nat.ne_of_lt (g57 ▸ V42_ia.lt)
  have ne_b2_b57 : b2 ≠ b57 := Nat.ne_of_lt (g57 ▸ V51_b2.lt)
  have ne_b27_b57 : b27 ≠ b57 := Nat.ne_of_lt (g57 ▸ V53_b27.lt)
  have E58_a := E41_a.ext E57
  have V59_ia := V42_ia.ext E57
  have F60_markings := F43_markings.ext E57
  have F61_fewest := F44_fewest.ext E57
  have F62_fewestTotal := F45_fewestTotal.ext E57
  have F63_held := F46_held.ext E57
  have F64_other := F47_other.ext E57
  have F65_comparedCount := F48_comparedCount.ext E57
  have F66_compared := F49_compared.ext E57
  have F67_size := F50_size.ext E57
  have V68_b2 := V51_b2.ext E57
  have Y69_b2 := Y52_b2.ext E57
  have V70_b27 := V53_b27.ext E57
  have Y71_b27 := Y54_b27.ext E57
  have E72_b27 := E55_b27.ext E57
  have Z57 : n0 ≤ h57.size := Nat.le_trans Z40 E57.1
  have n0_b57 : n0 ≤ b57 := g57 ▸ Z40
  have sz_b57 : h0.size ≤ b57 := g57 ▸ K40.1
  have K57 : Keep h0 h57 [a] := K40.ext E57
  rw [← g57] at A57 st57
  refine own_step st57 ?_
  have V57 : AV Z h57 b57 .long [(.long (0 : Int64)), (.long (0 : Int64)), (.long (0 : Int64)), (.long (0 : Int64)), (.long (0 : Int64)), (.long (0 : Int64)), (.long (0 : Int64)), (.long (0 : Int64)), (.long (0 : Int64)), (.long (0 : Int64)), (.long (0 : Int64)), (.long (0 : Int64)), (.long (0 : Int64)), (.long (0 : Int64)), (.long (0 : Int64)), (.long (0 : Int64))] := AV.new A57 (by decide)
  show GoP p e below Φ (T57.setTop (mkF m 29 #[.val (.ref a), .val (.ref ia), .unset, .unset, .unset, .unset, .unset] [(.ref b57), (.ref a)]))
  refine own_putF X57 hx hby hZ hown (host := "") (Or.inl (own_w hw 98 rfl)) Via.refl e57 F62_fewestTotal E58_a (Or.inl (own_w hw 99 rfl)) (own_w hw 83 rfl) (ty := (.array .long)) (by decide) rfl rfl d_86_1__29 (pc' := 32) rfl ?_
  intro T73 h73 X73 e73 W73
  have E74_a := E58_a.wr W73
  have V75_ia := V59_ia.other W73 nt14
  have F76_markings := F60_markings.other W73 (Or.inr (slot_ne (Or.inl (own_w hw 92 rfl)) (Or.inl (own_w hw 99 rfl)) (by decide) (t := (.array (.object "com/example/tracemass/tracemass/nets/Marking"))) (t' := (.array .long)) (by decide) (by decide)))
  have F77_fewest := F61_fewest.other W73 (Or.inr (slot_ne (Or.inl (own_w hw 96 rfl)) (Or.inl (own_w hw 99 rfl)) (by decide) (t := (.array (.array (.array .int)))) (t' := (.array .long)) (by decide) (by decide)))
  have F78_fewestTotal := F62_fewestTotal.same W73
  have F79_held := F63_held.other W73 (Or.inr (slot_ne (Or.inr (own_w hw 110 rfl)) (Or.inl (own_w hw 99 rfl)) (by decide) (t := (.object "com/example/tracemass/tracemass/qstates/SilentPath$Pairs")) (t' := (.array .long)) (by decide) (by decide)))
  have F80_other := F64_other.other W73 (Or.inr (slot_ne (Or.inr (own_w hw 112 rfl)) (Or.inl (own_w hw 99 rfl)) (by decide) (t := (.object "com/example/tracemass/tracemass/qstates/SilentPath$Pairs")) (t' := (.array .long)) (by decide) (by decide)))
  have F81_comparedCount := F65_comparedCount.other W73 (Or.inr (slot_ne (Or.inr (own_w hw 114 rfl)) (Or.inl (own_w hw 99 rfl)) (by decide) (t := .int) (t' := (.array .long)) (by decide) (by decide)))
  have F82_compared := F66_compared.other W73 (Or.inr (slot_ne (Or.inr (own_w hw 121 rfl)) (Or.inl (own_w hw 99 rfl)) (by decide) (t := (.array .boolean)) (t' := (.array .long)) (by decide) (by decide)))
  have F83_size := F67_size.other W73 (Or.inr (slot_ne (Or.inl (own_w hw 131 rfl)) (Or.inl (own_w hw 99 rfl)) (by decide) (t := .int) (t' := (.array .long)) (by decide) (by decide)))
  have V84_b2 := V68_b2.other W73 (Ne.symm ne_a_b2)
  have Y85_b2 := Y69_b2.wr W73
  have V86_b27 := V70_b27.other W73 (Ne.symm ne_a_b27)
  have Y87_b27 := Y71_b27.wr W73
  have E88_b27 := E72_b27.wr W73
  have V89_b57 := V57.other W73 (Ne.symm ne_a_b57)
  have Z73 : n0 ≤ h73.size := by rw [W73.size]; exact Z57
  have N73 := Fr.snoc X73 N40 n0_a
  have K73 : Keep h0 h73 [a] := K57.wr W73 (Or.inl (List.mem_of_getElem? (i := 0) rfl))
  refine own_aloadN X73 hx hby d_86_1__32 rfl rfl (pc' := 33) rfl ?_
  obtain ⟨T90, h90, X90, e90, E90, A90, D90, -, st90⟩ := newO X73 hx hZ hown (own_w hw 100 rfl) (own_w hw 101 rfl) (own_w hw 102 rfl) e73 (g := (mkF m 33 #[.val (.ref a), .val (.ref ia), .unset, .unset, .unset, .unset, .unset] [(.ref a)])) rfl (hb hby d_86_1__33) (by decide) (by decide)
  obtain ⟨b90, g90⟩ : ∃ z, z = h73.size := ⟨_, rfl⟩
  have ne_a_b90 : a ≠ b90 := Nat.ne_of_lt (g90 ▸ E74_a.lt)
  have ne_ia_b90 : ia ≠ b90 := Nat.ne_of_lt (g90 ▸ V75_ia.lt)
  have ne_b2_b90 : b2 ≠ b90 := Nat.ne_of_lt (g90 ▸ V84_b2.lt)
  have ne_b27_b90 : b27 ≠ b90 := Nat.ne_of_lt (g90 ▸ V86_b27.lt)
  have ne_b57_b90 : b57 ≠ b90 := Nat.ne_of_lt (g90 ▸ V89_b57.lt)
  have E91_a := E74_a.ext E90
  have V92_ia := V75_ia.ext E90
  have F93_markings := F76_markings.ext E90
  have F94_fewest := F77_fewest.ext E90
  have F95_fewestTotal := F78_fewestTotal.ext E90
  have F96_held := F79_held.ext E90
  have F97_other := F80_other.ext E90
  have F98_comparedCount := F81_comparedCount.ext E90
  have F99_compared := F82_compared.ext E90
  have F100_size := F83_size.ext E90
  have V101_b2 := V84_b2.ext E90
  have Y102_b2 := Y85_b2.ext E90
  have V103_b27 := V86_b27.ext E90
  have Y104_b27 := Y87_b27.ext E90
  have E105_b27 := E88_b27.ext E90
  have V106_b57 := V89_b57.ext E90
  have Z90 : n0 ≤ h90.size := Nat.le_trans Z73 E90.1
  have n0_b90 : n0 ≤ b90 := g90 ▸ Z73
  have sz_b90 : h0.size ≤ b90 := g90 ▸ K73.1
  have K90 : Keep h0 h90 [a] := K73.ext E90
  rw [← g90] at A90 D90 st90
  refine own_step st90 ?_
  have F90_values : Fld Z h90 b90 "com/example/tracemass/tracemass/qstates/SilentPath$Pairs" "values" "[I" .null := D90 (Or.inl (own_w hw 108 rfl)) (ty := (.array .int)) (by decide)
  have F90_length : Fld Z h90 b90 "com/example/tracemass/tracemass/qstates/SilentPath$Pairs" "length" "I" (.int (0 : Int32)) := D90 (Or.inl (own_w hw 180 rfl)) (ty := .int) (by decide)
  show GoP p e below Φ (T90.setTop (mkF m 36 #[.val (.ref a), .val (.ref ia), .unset, .unset, .unset, .unset, .unset] [(.ref b90), (.ref a)]))
  refine own_dup X90 hx hby d_86_1__36 rfl (pc' := 37) rfl ?_
  refine own_callIR X90 hx hby hZ (by exact hml) hown rfl (own_w hw 103 rfl) (own_w hw 104 rfl) (own_w hw 102 rfl) (own_w hw 105 rfl) (by decide) e90 2 (by decide) (by decide) (by decide) (by decide) (argsL := []) (rest := [(.ref b90), (.ref a)]) (lenOf pd___V rfl) rfl (Nat.le_of_eq rfl) (rmPI l Z a0 hw b90 n0 h90 n0_b90 Z90 A90 F90_values F90_length) d_86_1__37 (pc' := 40) rfl ?_
  intro v107 T107 L107 X107 hQ107
  obtain ⟨rfl, Nq107, K107, hv107, sh107, E107, F1107, F2107, V107⟩ := hQ107
  have ne_a_hv107 : a ≠ hv107 := Nat.ne_of_lt (Nat.lt_of_lt_of_le E91_a.lt sh107)
  have ne_ia_hv107 : ia ≠ hv107 := Nat.ne_of_lt (Nat.lt_of_lt_of_le V92_ia.lt sh107)
  have ne_b2_hv107 : b2 ≠ hv107 := Nat.ne_of_lt (Nat.lt_of_lt_of_le V101_b2.lt sh107)
  have ne_b27_hv107 : b27 ≠ hv107 := Nat.ne_of_lt (Nat.lt_of_lt_of_le V103_b27.lt sh107)
  have ne_b57_hv107 : b57 ≠ hv107 := Nat.ne_of_lt (Nat.lt_of_lt_of_le V106_b57.lt sh107)
  have ne_b90_hv107 : b90 ≠ hv107 := Nat.ne_of_lt (Nat.lt_of_lt_of_le A90.lt sh107)
  have sz_hv107 : h0.size ≤ hv107 := Nat.le_trans K90.1 sh107
  have E108_a := E91_a.keep K107
  have V109_ia := V92_ia.keep K107 (ninS ne_ia_b90 nin0)
  have F110_markings := F93_markings.keep K107 (ninS ne_a_b90 nin0)
  have F111_fewest := F94_fewest.keep K107 (ninS ne_a_b90 nin0)
  have F112_fewestTotal := F95_fewestTotal.keep K107 (ninS ne_a_b90 nin0)
  have F113_held := F96_held.keep K107 (ninS ne_a_b90 nin0)
  have F114_other := F97_other.keep K107 (ninS ne_a_b90 nin0)
  have F115_comparedCount := F98_comparedCount.keep K107 (ninS ne_a_b90 nin0)
  have F116_compared := F99_compared.keep K107 (ninS ne_a_b90 nin0)
  have F117_size := F100_size.keep K107 (ninS ne_a_b90 nin0)
  have V118_b2 := V101_b2.keep K107 (ninS ne_b2_b90 nin0)
  have Y119_b2 := Y102_b2.keep K107
  have V120_b27 := V103_b27.keep K107 (ninS ne_b27_b90 nin0)
  have Y121_b27 := Y104_b27.keep K107
  have E122_b27 := E105_b27.keep K107
  have V123_b57 := V106_b57.keep K107 (ninS ne_b57_b90 nin0)
  have N107 := Fr.app N73 Nq107
  have Z107 : n0 ≤ T107.heap.size := Nat.le_trans Z90 K107.1
  have KK107 : Keep h0 T107.heap [a] := K90.trans K107 (allS (Or.inr sz_b90) all0)
  show GoP p e below Φ (T107.setTop (mkF m 40 #[.val (.ref a), .val (.ref ia), .unset, .unset, .unset, .unset, .unset] [(.ref b90), (.ref a)]))
  refine own_putF X107 hx hby hZ hown (host := "") (Or.inl (own_w hw 109 rfl)) Via.refl rfl F113_held E108_a (Or.inr ⟨(own_w hw 110 rfl), rfl, hnm⟩) (own_w hw 83 rfl) (ty := (.object "com/example/tracemass/tracemass/qstates/SilentPath$Pairs")) (by decide) rfl rfl d_86_1__40 (pc' := 43) rfl ?_
  intro T124 h124 X124 e124 W124
  have E125_a := E108_a.wr W124
  have V126_ia := V109_ia.other W124 nt14
  have F127_markings := F110_markings.other W124 (Or.inr (slot_ne (Or.inl (own_w hw 92 rfl)) (Or.inr (own_w hw 110 rfl)) (by decide) (t := (.array (.object "com/example/tracemass/tracemass/nets/Marking"))) (t' := (.object "com/example/tracemass/tracemass/qstates/SilentPath$Pairs")) (by decide) (by decide)))
  have F128_fewest := F111_fewest.other W124 (Or.inr (slot_ne (Or.inl (own_w hw 96 rfl)) (Or.inr (own_w hw 110 rfl)) (by decide) (t := (.array (.array (.array .int)))) (t' := (.object "com/example/tracemass/tracemass/qstates/SilentPath$Pairs")) (by decide) (by decide)))
  have F129_fewestTotal := F112_fewestTotal.other W124 (Or.inr (slot_ne (Or.inl (own_w hw 99 rfl)) (Or.inr (own_w hw 110 rfl)) (by decide) (t := (.array .long)) (t' := (.object "com/example/tracemass/tracemass/qstates/SilentPath$Pairs")) (by decide) (by decide)))
  have F130_held := F113_held.same W124
  have F131_other := F114_other.other W124 (Or.inr (slot_ne (Or.inr (own_w hw 112 rfl)) (Or.inr (own_w hw 110 rfl)) (by decide) (t := (.object "com/example/tracemass/tracemass/qstates/SilentPath$Pairs")) (t' := (.object "com/example/tracemass/tracemass/qstates/SilentPath$Pairs")) (by decide) (by decide)))
  have F132_comparedCount := F115_comparedCount.other W124 (Or.inr (slot_ne (Or.inr (own_w hw 114 rfl)) (Or.inr (own_w hw 110 rfl)) (by decide) (t := .int) (t' := (.object "com/example/tracemass/tracemass/qstates/SilentPath$Pairs")) (by decide) (by decide)))
  have F133_compared := F116_compared.other W124 (Or.inr (slot_ne (Or.inr (own_w hw 121 rfl)) (Or.inr (own_w hw 110 rfl)) (by decide) (t := (.array .boolean)) (t' := (.object "com/example/tracemass/tracemass/qstates/SilentPath$Pairs")) (by decide) (by decide)))
  have F134_size := F117_size.other W124 (Or.inr (slot_ne (Or.inl (own_w hw 131 rfl)) (Or.inr (own_w hw 110 rfl)) (by decide) (t := .int) (t' := (.object "com/example/tracemass/tracemass/qstates/SilentPath$Pairs")) (by decide) (by decide)))
  have V135_b2 := V118_b2.other W124 (Ne.symm ne_a_b2)
  have Y136_b2 := Y119_b2.wr W124
  have V137_b27 := V120_b27.other W124 (Ne.symm ne_a_b27)
  have Y138_b27 := Y121_b27.wr W124
  have E139_b27 := E122_b27.wr W124
  have V140_b57 := V123_b57.other W124 (Ne.symm ne_a_b57)
  have E141_b90 := E107.wr W124
  have F142_values := F1107.other W124 (Or.inl (Ne.symm ne_a_b90))
  have F143_length := F2107.other W124 (Or.inl (Ne.symm ne_a_b90))
  have V144_hv107 := V107.other W124 (Ne.symm ne_a_hv107)
  have Z124 : n0 ≤ h124.size := by rw [W124.size]; exact Z107
  have N124 := Fr.snoc X124 N107 n0_a
  have K124 : Keep h0 h124 [a] := KK107.wr W124 (Or.inl (List.mem_of_getElem? (i := 0) rfl))
  refine own_aloadN X124 hx hby d_86_1__43 rfl rfl (pc' := 44) rfl ?_
  obtain ⟨T145, h145, X145, e145, E145, A145, D145, -, st145⟩ := newO X124 hx hZ hown (own_w hw 100 rfl) (own_w hw 101 rfl) (own_w hw 102 rfl) e124 (g := (mkF m 44 #[.val (.ref a), .val (.ref ia), .unset, .unset, .unset, .unset, .unset] [(.ref a)])) rfl (hb hby d_86_1__44) (by decide) (by decide)
  obtain ⟨b145, g145⟩ : ∃ z, z = h124.size := ⟨_, rfl⟩
  have ne_a_b145 : a ≠ b145 := Nat.ne_of_lt (g145 ▸ E125_a.lt)
  have ne_ia_b145 : ia ≠ b145 := Nat.ne_of_lt (g145 ▸ V126_ia.lt)
  have ne_b2_b145 : b2 ≠ b145 := Nat.ne_of_lt (g145 ▸ V135_b2.lt)
  have ne_b27_b145 : b27 ≠ b145 := Nat.ne_of_lt (g145 ▸ V137_b27.lt)
  have ne_b57_b145 : b57 ≠ b145 := Nat.ne_of_lt (g145 ▸ V140_b57.lt)
  have ne_b90_b145 : b90 ≠ b145 := Nat.ne_of_lt (g145 ▸ E141_b90.lt)
  have ne_hv107_b145 : hv107 ≠ b145 := Nat.ne_of_lt (g145 ▸ V144_hv107.lt)
  have E146_a := E125_a.ext E145
  have V147_ia := V126_ia.ext E145
  have F148_markings := F127_markings.ext E145
  have F149_fewest := F128_fewest.ext E145
  have F150_fewestTotal := F129_fewestTotal.ext E145
  have F151_held := F130_held.ext E145
  have F152_other := F131_other.ext E145
  have F153_comparedCount := F132_comparedCount.ext E145
  have F154_compared := F133_compared.ext E145
  have F155_size := F134_size.ext E145
  have V156_b2 := V135_b2.ext E145
  have Y157_b2 := Y136_b2.ext E145
  have V158_b27 := V137_b27.ext E145
  have Y159_b27 := Y138_b27.ext E145
  have E160_b27 := E139_b27.ext E145
  have V161_b57 := V140_b57.ext E145
  have E162_b90 := E141_b90.ext E145
  have F163_values := F142_values.ext E145
  have F164_length := F143_length.ext E145
  have V165_hv107 := V144_hv107.ext E145
  have Z145 : n0 ≤ h145.size := Nat.le_trans Z124 E145.1
  have n0_b145 : n0 ≤ b145 := g145 ▸ Z124
  have sz_b145 : h0.size ≤ b145 := g145 ▸ K124.1
  have K145 : Keep h0 h145 [a] := K124.ext E145
  rw [← g145] at A145 D145 st145
  refine own_step st145 ?_
  have F145_values : Fld Z h145 b145 "com/example/tracemass/tracemass/qstates/SilentPath$Pairs" "values" "[I" .null := D145 (Or.inl (own_w hw 108 rfl)) (ty := (.array .int)) (by decide)
  have F145_length : Fld Z h145 b145 "com/example/tracemass/tracemass/qstates/SilentPath$Pairs" "length" "I" (.int (0 : Int32)) := D145 (Or.inl (own_w hw 180 rfl)) (ty := .int) (by decide)
  show GoP p e below Φ (T145.setTop (mkF m 47 #[.val (.ref a), .val (.ref ia), .unset, .unset, .unset, .unset, .unset] [(.ref b145), (.ref a)]))
  refine own_dup X145 hx hby d_86_1__47 rfl (pc' := 48) rfl ?_
  refine own_callIR X145 hx hby hZ (by exact hml) hown rfl (own_w hw 103 rfl) (own_w hw 104 rfl) (own_w hw 102 rfl) (own_w hw 105 rfl) (by decide) e145 2 (by decide) (by decide) (by decide) (by decide) (argsL := []) (rest := [(.ref b145), (.ref a)]) (lenOf pd___V rfl) rfl (Nat.le_of_eq rfl) (rmPI l Z a0 hw b145 n0 h145 n0_b145 Z145 A145 F145_values F145_length) d_86_1__48 (pc' := 51) rfl ?_
  intro v166 T166 L166 X166 hQ166
  obtain ⟨rfl, Nq166, K166, hv166, sh166, E166, F1166, F2166, V166⟩ := hQ166
  have ne_a_hv166 : a ≠ hv166 := Nat.ne_of_lt (Nat.lt_of_lt_of_le E146_a.lt sh166)
  have ne_ia_hv166 : ia ≠ hv166 := Nat.ne_of_lt (Nat.lt_of_lt_of_le V147_ia.lt sh166)
  have ne_b2_hv166 : b2 ≠ hv166 := Nat.ne_of_lt (Nat.lt_of_lt_of_le V156_b2.lt sh166)
  have ne_b27_hv166 : b27 ≠ hv166 := Nat.ne_of_lt (Nat.lt_of_lt_of_le V158_b27.lt sh166)
  have ne_b57_hv166 : b57 ≠ hv166 := Nat.ne_of_lt (Nat.lt_of_lt_of_le V161_b57.lt sh166)
  have ne_b90_hv166 : b90 ≠ hv166 := Nat.ne_of_lt (Nat.lt_of_lt_of_le E162_b90.lt sh166)
  have ne_hv107_hv166 : hv107 ≠ hv166 := Nat.ne_of_lt (Nat.lt_of_lt_of_le V165_hv107.lt sh166)
  have ne_b145_hv166 : b145 ≠ hv166 := Nat.ne_of_lt (Nat.lt_of_lt_of_le A145.lt sh166)
  have sz_hv166 : h0.size ≤ hv166 := Nat.le_trans K145.1 sh166
  have E167_a := E146_a.keep K166
  have V168_ia := V147_ia.keep K166 (ninS ne_ia_b145 nin0)
  have F169_markings := F148_markings.keep K166 (ninS ne_a_b145 nin0)
  have F170_fewest := F149_fewest.keep K166 (ninS ne_a_b145 nin0)
  have F171_fewestTotal := F150_fewestTotal.keep K166 (ninS ne_a_b145 nin0)
  have F172_held := F151_held.keep K166 (ninS ne_a_b145 nin0)
  have F173_other := F152_other.keep K166 (ninS ne_a_b145 nin0)
  have F174_comparedCount := F153_comparedCount.keep K166 (ninS ne_a_b145 nin0)
  have F175_compared := F154_compared.keep K166 (ninS ne_a_b145 nin0)
  have F176_size := F155_size.keep K166 (ninS ne_a_b145 nin0)
  have V177_b2 := V156_b2.keep K166 (ninS ne_b2_b145 nin0)
  have Y178_b2 := Y157_b2.keep K166
  have V179_b27 := V158_b27.keep K166 (ninS ne_b27_b145 nin0)
  have Y180_b27 := Y159_b27.keep K166
  have E181_b27 := E160_b27.keep K166
  have V182_b57 := V161_b57.keep K166 (ninS ne_b57_b145 nin0)
  have E183_b90 := E162_b90.keep K166
  have F184_values := F163_values.keep K166 (ninS ne_b90_b145 nin0)
  have F185_length := F164_length.keep K166 (ninS ne_b90_b145 nin0)
  have V186_hv107 := V165_hv107.keep K166 (ninS ne_hv107_b145 nin0)
  have N166 := Fr.app N124 Nq166
  have Z166 : n0 ≤ T166.heap.size := Nat.le_trans Z145 K166.1
  have KK166 : Keep h0 T166.heap [a] := K145.trans K166 (allS (Or.inr sz_b145) all0)
  show GoP p e below Φ (T166.setTop (mkF m 51 #[.val (.ref a), .val (.ref ia), .unset, .unset, .unset, .unset, .unset] [(.ref b145), (.ref a)]))
  refine own_putF X166 hx hby hZ hown (host := "") (Or.inl (own_w hw 111 rfl)) Via.refl rfl F173_other E167_a (Or.inr ⟨(own_w hw 112 rfl), rfl, hnm⟩) (own_w hw 83 rfl) (ty := (.object "com/example/tracemass/tracemass/qstates/SilentPath$Pairs")) (by decide) rfl rfl d_86_1__51 (pc' := 54) rfl ?_
  intro T187 h187 X187 e187 W187
  have E188_a := E167_a.wr W187
  have V189_ia := V168_ia.other W187 nt14
  have F190_markings := F169_markings.other W187 (Or.inr (slot_ne (Or.inl (own_w hw 92 rfl)) (Or.inr (own_w hw 112 rfl)) (by decide) (t := (.array (.object "com/example/tracemass/tracemass/nets/Marking"))) (t' := (.object "com/example/tracemass/tracemass/qstates/SilentPath$Pairs")) (by decide) (by decide)))
  have F191_fewest := F170_fewest.other W187 (Or.inr (slot_ne (Or.inl (own_w hw 96 rfl)) (Or.inr (own_w hw 112 rfl)) (by decide) (t := (.array (.array (.array .int)))) (t' := (.object "com/example/tracemass/tracemass/qstates/SilentPath$Pairs")) (by decide) (by decide)))
  have F192_fewestTotal := F171_fewestTotal.other W187 (Or.inr (slot_ne (Or.inl (own_w hw 99 rfl)) (Or.inr (own_w hw 112 rfl)) (by decide) (t := (.array .long)) (t' := (.object "com/example/tracemass/tracemass/qstates/SilentPath$Pairs")) (by decide) (by decide)))
  have F193_held := F172_held.other W187 (Or.inr (slot_ne (Or.inr (own_w hw 110 rfl)) (Or.inr (own_w hw 112 rfl)) (by decide) (t := (.object "com/example/tracemass/tracemass/qstates/SilentPath$Pairs")) (t' := (.object "com/example/tracemass/tracemass/qstates/SilentPath$Pairs")) (by decide) (by decide)))
  have F194_other := F173_other.same W187
  have F195_comparedCount := F174_comparedCount.other W187 (Or.inr (slot_ne (Or.inr (own_w hw 114 rfl)) (Or.inr (own_w hw 112 rfl)) (by decide) (t := .int) (t' := (.object "com/example/tracemass/tracemass/qstates/SilentPath$Pairs")) (by decide) (by decide)))
  have F196_compared := F175_compared.other W187 (Or.inr (slot_ne (Or.inr (own_w hw 121 rfl)) (Or.inr (own_w hw 112 rfl)) (by decide) (t := (.array .boolean)) (t' := (.object "com/example/tracemass/tracemass/qstates/SilentPath$Pairs")) (by decide) (by decide)))
  have F197_size := F176_size.other W187 (Or.inr (slot_ne (Or.inl (own_w hw 131 rfl)) (Or.inr (own_w hw 112 rfl)) (by decide) (t := .int) (t' := (.object "com/example/tracemass/tracemass/qstates/SilentPath$Pairs")) (by decide) (by decide)))
  have V198_b2 := V177_b2.other W187 (Ne.symm ne_a_b2)
  have Y199_b2 := Y178_b2.wr W187
  have V200_b27 := V179_b27.other W187 (Ne.symm ne_a_b27)
  have Y201_b27 := Y180_b27.wr W187
  have E202_b27 := E181_b27.wr W187
  have V203_b57 := V182_b57.other W187 (Ne.symm ne_a_b57)
  have E204_b90 := E183_b90.wr W187
  have F205_values := F184_values.other W187 (Or.inl (Ne.symm ne_a_b90))
  have F206_length := F185_length.other W187 (Or.inl (Ne.symm ne_a_b90))
  have V207_hv107 := V186_hv107.other W187 (Ne.symm ne_a_hv107)
  have E208_b145 := E166.wr W187
  have F209_values := F1166.other W187 (Or.inl (Ne.symm ne_a_b145))
  have F210_length := F2166.other W187 (Or.inl (Ne.symm ne_a_b145))
  have V211_hv166 := V166.other W187 (Ne.symm ne_a_hv166)
  have Z187 : n0 ≤ h187.size := by rw [W187.size]; exact Z166
  have N187 := Fr.snoc X187 N166 n0_a
  have K187 : Keep h0 h187 [a] := KK166.wr W187 (Or.inl (List.mem_of_getElem? (i := 0) rfl))
  refine own_aloadN X187 hx hby d_86_1__54 rfl rfl (pc' := 55) rfl ?_
  refine own_aloadN X187 hx hby d_86_1__55 rfl rfl (pc' := 56) rfl ?_
  refine own_alen X187 hx hby hZ e187 (n := (2 : Int32)) V189_ia rfl d_86_1__56 (pc' := 57) rfl ?_
  refine own_putF X187 hx hby hZ hown (host := "") (Or.inl (own_w hw 113 rfl)) Via.refl e187 F195_comparedCount E188_a (Or.inr ⟨(own_w hw 114 rfl), rfl, hnm⟩) (own_w hw 83 rfl) (ty := .int) (by decide) rfl rfl d_86_1__57 (pc' := 60) rfl ?_
  intro T212 h212 X212 e212 W212
  have E213_a := E188_a.wr W212
  have V214_ia := V189_ia.other W212 nt14
  have F215_markings := F190_markings.other W212 (Or.inr (slot_ne (Or.inl (own_w hw 92 rfl)) (Or.inr (own_w hw 114 rfl)) (by decide) (t := (.array (.object "com/example/tracemass/tracemass/nets/Marking"))) (t' := .int) (by decide) (by decide)))
  have F216_fewest := F191_fewest.other W212 (Or.inr (slot_ne (Or.inl (own_w hw 96 rfl)) (Or.inr (own_w hw 114 rfl)) (by decide) (t := (.array (.array (.array .int)))) (t' := .int) (by decide) (by decide)))
  have F217_fewestTotal := F192_fewestTotal.other W212 (Or.inr (slot_ne (Or.inl (own_w hw 99 rfl)) (Or.inr (own_w hw 114 rfl)) (by decide) (t := (.array .long)) (t' := .int) (by decide) (by decide)))
  have F218_held := F193_held.other W212 (Or.inr (slot_ne (Or.inr (own_w hw 110 rfl)) (Or.inr (own_w hw 114 rfl)) (by decide) (t := (.object "com/example/tracemass/tracemass/qstates/SilentPath$Pairs")) (t' := .int) (by decide) (by decide)))
  have F219_other := F194_other.other W212 (Or.inr (slot_ne (Or.inr (own_w hw 112 rfl)) (Or.inr (own_w hw 114 rfl)) (by decide) (t := (.object "com/example/tracemass/tracemass/qstates/SilentPath$Pairs")) (t' := .int) (by decide) (by decide)))
  have F220_comparedCount := F195_comparedCount.same W212
  have F221_compared := F196_compared.other W212 (Or.inr (slot_ne (Or.inr (own_w hw 121 rfl)) (Or.inr (own_w hw 114 rfl)) (by decide) (t := (.array .boolean)) (t' := .int) (by decide) (by decide)))
  have F222_size := F197_size.other W212 (Or.inr (slot_ne (Or.inl (own_w hw 131 rfl)) (Or.inr (own_w hw 114 rfl)) (by decide) (t := .int) (t' := .int) (by decide) (by decide)))
  have V223_b2 := V198_b2.other W212 (Ne.symm ne_a_b2)
  have Y224_b2 := Y199_b2.wr W212
  have V225_b27 := V200_b27.other W212 (Ne.symm ne_a_b27)
  have Y226_b27 := Y201_b27.wr W212
  have E227_b27 := E202_b27.wr W212
  have V228_b57 := V203_b57.other W212 (Ne.symm ne_a_b57)
  have E229_b90 := E204_b90.wr W212
  have F230_values := F205_values.other W212 (Or.inl (Ne.symm ne_a_b90))
  have F231_length := F206_length.other W212 (Or.inl (Ne.symm ne_a_b90))
  have V232_hv107 := V207_hv107.other W212 (Ne.symm ne_a_hv107)
  have E233_b145 := E208_b145.wr W212
  have F234_values := F209_values.other W212 (Or.inl (Ne.symm ne_a_b145))
  have F235_length := F210_length.other W212 (Or.inl (Ne.symm ne_a_b145))
  have V236_hv166 := V211_hv166.other W212 (Ne.symm ne_a_hv166)
  have Z212 : n0 ≤ h212.size := by rw [W212.size]; exact Z187
  have N212 := Fr.snoc X212 N187 n0_a
  have K212 : Keep h0 h212 [a] := K187.wr W212 (Or.inl (List.mem_of_getElem? (i := 0) rfl))
  refine own_iconst X212 hx hby d_86_1__60 (v := (-1 : Int32)) rfl (pc' := 61) rfl ?_
  refine own_istoreN X212 hx hby d_86_1__61  (Ls' := #[.val (.ref a), .val (.ref ia), .val (.int (-1 : Int32)), .unset, .unset, .unset, .unset]) rfl (pc' := 62) rfl ?_
  refine own_aloadN X212 hx hby d_86_1__62 rfl rfl (pc' := 63) rfl ?_
  refine own_astoreN X212 hx hby d_86_1__63 rfl (Ls' := #[.val (.ref a), .val (.ref ia), .val (.int (-1 : Int32)), .val (.ref ia), .unset, .unset, .unset]) rfl (pc' := 64) rfl ?_
  refine own_aloadN X212 hx hby d_86_1__64 rfl rfl (pc' := 65) rfl ?_
  refine own_alen X212 hx hby hZ e212 (n := (2 : Int32)) V214_ia rfl d_86_1__65 (pc' := 66) rfl ?_
  refine own_istore X212 hx hby d_86_1__66  (Ls' := #[.val (.ref a), .val (.ref ia), .val (.int (-1 : Int32)), .val (.ref ia), .val (.int (2 : Int32)), .unset, .unset]) rfl (pc' := 68) rfl ?_
  refine own_iconst X212 hx hby d_86_1__68 (v := (0 : Int32)) rfl (pc' := 69) rfl ?_
  refine own_istore X212 hx hby d_86_1__69  (Ls' := #[.val (.ref a), .val (.ref ia), .val (.int (-1 : Int32)), .val (.ref ia), .val (.int (2 : Int32)), .val (.int (0 : Int32)), .unset]) rfl (pc' := 71) rfl ?_
  refine own_iload X212 hx hby d_86_1__71 rfl (pc' := 73) rfl ?_
  refine own_iload X212 hx hby d_86_1__73 rfl (pc' := 75) rfl ?_
  refine own_icmpN X212 hx hby d_86_1__75 (tlt (by decide)).2.1 (pc' := 78) rfl ?_
  refine own_aloadN X212 hx hby d_86_1__78 rfl rfl (pc' := 79) rfl ?_
  refine own_iload X212 hx hby d_86_1__79 rfl (pc' := 81) rfl ?_
  refine own_iaload X212 hx hby hZ e212 V214_ia (by decide) (v := (.int (0 : Int32))) rfl d_86_1__81 (pc' := 82) rfl ?_
  refine own_istore X212 hx hby d_86_1__82  (Ls' := #[.val (.ref a), .val (.ref ia), .val (.int (-1 : Int32)), .val (.ref ia), .val (.int (2 : Int32)), .val (.int (0 : Int32)), .val (.int (0 : Int32))]) rfl (pc' := 84) rfl ?_
  refine own_iloadN X212 hx hby d_86_1__84 rfl (pc' := 85) rfl ?_
  refine own_iload X212 hx hby d_86_1__85 rfl (pc' := 87) rfl ?_
  refine own_callS X212 hx hby hZ (by exact hml) hown (own_w hw 115 rfl) (own_w hw 116 rfl) (own_w hw 117 rfl) (own_w hw 118 rfl) (by decide) e212 0 (by decide) (by decide) (by decide) (by decide) (argsL := [(.int (-1 : Int32)), (.int (0 : Int32))]) (rest := []) (lenOf pd__II_I rfl) rfl (rmMx_m1_0 l Z a0 hw h212) (Nat.le_of_eq rfl) d_86_1__87 (pc' := 90) rfl ?_
  intro v237 T237 L237 X237 hQ237
  obtain ⟨rfl, rfl, e237⟩ := hQ237
  rw [List.append_nil] at X237
  replace e237 : T237.heap = h212 := e237
  show GoP p e below Φ (T237.setTop (mkF m 90 #[.val (.ref a), .val (.ref ia), .val (.int (-1 : Int32)), .val (.ref ia), .val (.int (2 : Int32)), .val (.int (0 : Int32)), .val (.int (0 : Int32))] [(.int (0 : Int32))]))
  refine own_istoreN X237 hx hby d_86_1__90  (Ls' := #[.val (.ref a), .val (.ref ia), .val (.int (0 : Int32)), .val (.ref ia), .val (.int (2 : Int32)), .val (.int (0 : Int32)), .val (.int (0 : Int32))]) rfl (pc' := 91) rfl ?_
  refine own_iinc X237 hx hby d_86_1__91 rfl (v := (1 : Int32)) rfl (Ls' := #[.val (.ref a), .val (.ref ia), .val (.int (0 : Int32)), .val (.ref ia), .val (.int (2 : Int32)), .val (.int (1 : Int32)), .val (.int (0 : Int32))]) rfl (pc' := 94) rfl ?_
  refine own_goto X237 hx hby d_86_1__94 (by decide) (pc' := 71) (by decide) ?_
  refine own_iload X237 hx hby d_86_1__71 rfl (pc' := 73) rfl ?_
  refine own_iload X237 hx hby d_86_1__73 rfl (pc' := 75) rfl ?_
  refine own_icmpN X237 hx hby d_86_1__75 (tlt (by decide)).2.1 (pc' := 78) rfl ?_
  refine own_aloadN X237 hx hby d_86_1__78 rfl rfl (pc' := 79) rfl ?_
  refine own_iload X237 hx hby d_86_1__79 rfl (pc' := 81) rfl ?_
  refine own_iaload X237 hx hby hZ e237 V214_ia (by decide) (v := (.int (1 : Int32))) rfl d_86_1__81 (pc' := 82) rfl ?_
  refine own_istore X237 hx hby d_86_1__82  (Ls' := #[.val (.ref a), .val (.ref ia), .val (.int (0 : Int32)), .val (.ref ia), .val (.int (2 : Int32)), .val (.int (1 : Int32)), .val (.int (1 : Int32))]) rfl (pc' := 84) rfl ?_
  refine own_iloadN X237 hx hby d_86_1__84 rfl (pc' := 85) rfl ?_
  refine own_iload X237 hx hby d_86_1__85 rfl (pc' := 87) rfl ?_
  refine own_callS X237 hx hby hZ (by exact hml) hown (own_w hw 115 rfl) (own_w hw 116 rfl) (own_w hw 117 rfl) (own_w hw 118 rfl) (by decide) e237 0 (by decide) (by decide) (by decide) (by decide) (argsL := [(.int (0 : Int32)), (.int (1 : Int32))]) (rest := []) (lenOf pd__II_I rfl) rfl (rmMx_0_1 l Z a0 hw h212) (Nat.le_of_eq rfl) d_86_1__87 (pc' := 90) rfl ?_
  intro v238 T238 L238 X238 hQ238
  obtain ⟨rfl, rfl, e238⟩ := hQ238
  rw [List.append_nil] at X238
  replace e238 : T238.heap = h212 := e238
  show GoP p e below Φ (T238.setTop (mkF m 90 #[.val (.ref a), .val (.ref ia), .val (.int (0 : Int32)), .val (.ref ia), .val (.int (2 : Int32)), .val (.int (1 : Int32)), .val (.int (1 : Int32))] [(.int (1 : Int32))]))
  refine own_istoreN X238 hx hby d_86_1__90  (Ls' := #[.val (.ref a), .val (.ref ia), .val (.int (1 : Int32)), .val (.ref ia), .val (.int (2 : Int32)), .val (.int (1 : Int32)), .val (.int (1 : Int32))]) rfl (pc' := 91) rfl ?_
  refine own_iinc X238 hx hby d_86_1__91 rfl (v := (1 : Int32)) rfl (Ls' := #[.val (.ref a), .val (.ref ia), .val (.int (1 : Int32)), .val (.ref ia), .val (.int (2 : Int32)), .val (.int (2 : Int32)), .val (.int (1 : Int32))]) rfl (pc' := 94) rfl ?_
  refine own_goto X238 hx hby d_86_1__94 (by decide) (pc' := 71) (by decide) ?_
  refine own_iload X238 hx hby d_86_1__71 rfl (pc' := 73) rfl ?_
  refine own_iload X238 hx hby d_86_1__73 rfl (pc' := 75) rfl ?_
  refine own_icmpY X238 hx hby d_86_1__75 (flt (by decide)).2.1 (by decide) (pc' := 97) (by decide) ?_
  refine own_aloadN X238 hx hby d_86_1__97 rfl rfl (pc' := 98) rfl ?_
  refine own_iloadN X238 hx hby d_86_1__98 rfl (pc' := 99) rfl ?_
  refine own_iconst X238 hx hby d_86_1__99 (v := (1 : Int32)) rfl (pc' := 100) rfl ?_
  refine own_iadd X238 hx hby d_86_1__100 (pc' := 101) rfl ?_
  show GoP p e below Φ (T238.setTop (mkF m 101 #[.val (.ref a), .val (.ref ia), .val (.int (1 : Int32)), .val (.ref ia), .val (.int (2 : Int32)), .val (.int (2 : Int32)), .val (.int (1 : Int32))] [(.int (2 : Int32)), (.ref a)]))
  obtain ⟨T239, h239, k239, X239, e239, E239, A239, st239⟩ := newP X238 hx hZ (own_w hw 119 rfl) e238 (g := (mkF m 101 #[.val (.ref a), .val (.ref ia), .val (.int (1 : Int32)), .val (.ref ia), .val (.int (2 : Int32)), .val (.int (2 : Int32)), .val (.int (1 : Int32))] [(.int (2 : Int32)), (.ref a)])) rfl (hb hby d_86_1__101) rfl (by decide) (cap := 2) (by decide) (by decide) (by decide) (by decide)
  obtain ⟨b239, g239⟩ : ∃ z, z = h212.size := ⟨_, rfl⟩
  have ne_a_b239 : a ≠ b239 := Nat.ne_of_lt (g239 ▸ E213_a.lt)
  have ne_ia_b239 : ia ≠ b239 := Nat.ne_of_lt (g239 ▸ V214_ia.lt)
  have ne_b2_b239 : b2 ≠ b239 := Nat.ne_of_lt (g239 ▸ V223_b2.lt)
  have ne_b27_b239 : b27 ≠ b239 := Nat.ne_of_lt (g239 ▸ V225_b27.lt)
  have ne_b57_b239 : b57 ≠ b239 := Nat.ne_of_lt (g239 ▸ V228_b57.lt)
  have ne_b90_b239 : b90 ≠ b239 := Nat.ne_of_lt (g239 ▸ E229_b90.lt)
  have ne_hv107_b239 : hv107 ≠ b239 := Nat.ne_of_lt (g239 ▸ V232_hv107.lt)
  have ne_b145_b239 : b145 ≠ b239 := Nat.ne_of_lt (g239 ▸ E233_b145.lt)
  have ne_hv166_b239 : hv166 ≠ b239 := Nat.ne_of_lt (g239 ▸ V236_hv166.lt)
  have E240_a := E213_a.ext E239
  have V241_ia := V214_ia.ext E239
  have F242_markings := F215_markings.ext E239
  have F243_fewest := F216_fewest.ext E239
  have F244_fewestTotal := F217_fewestTotal.ext E239
  have F245_held := F218_held.ext E239
  have F246_other := F219_other.ext E239
  have F247_comparedCount := F220_comparedCount.ext E239
  have F248_compared := F221_compared.ext E239
  have F249_size := F222_size.ext E239
  have V250_b2 := V223_b2.ext E239
  have Y251_b2 := Y224_b2.ext E239
  have V252_b27 := V225_b27.ext E239
  have Y253_b27 := Y226_b27.ext E239
  have E254_b27 := E227_b27.ext E239
  have V255_b57 := V228_b57.ext E239
  have E256_b90 := E229_b90.ext E239
  have F257_values := F230_values.ext E239
  have F258_length := F231_length.ext E239
  have V259_hv107 := V232_hv107.ext E239
  have E260_b145 := E233_b145.ext E239
  have F261_values := F234_values.ext E239
  have F262_length := F235_length.ext E239
  have V263_hv166 := V236_hv166.ext E239
  have Z239 : n0 ≤ h239.size := Nat.le_trans Z212 E239.1
  have n0_b239 : n0 ≤ b239 := g239 ▸ Z212
  have sz_b239 : h0.size ≤ b239 := g239 ▸ K212.1
  have K239 : Keep h0 h239 [a] := K212.ext E239
  rw [← g239] at A239 st239
  refine own_step st239 ?_
  have V239 : AV Z h239 b239 .boolean [(.int (0 : Int32)), (.int (0 : Int32))] := AV.new A239 (by decide)
  show GoP p e below Φ (T239.setTop (mkF m 103 #[.val (.ref a), .val (.ref ia), .val (.int (1 : Int32)), .val (.ref ia), .val (.int (2 : Int32)), .val (.int (2 : Int32)), .val (.int (1 : Int32))] [(.ref b239), (.ref a)]))
  refine own_putF X239 hx hby hZ hown (host := "") (Or.inl (own_w hw 120 rfl)) Via.refl e239 F248_compared E240_a (Or.inr ⟨(own_w hw 121 rfl), rfl, hnm⟩) (own_w hw 83 rfl) (ty := (.array .boolean)) (by decide) rfl rfl d_86_1__103 (pc' := 106) rfl ?_
  intro T264 h264 X264 e264 W264
  have E265_a := E240_a.wr W264
  have V266_ia := V241_ia.other W264 nt14
  have F267_markings := F242_markings.other W264 (Or.inr (slot_ne (Or.inl (own_w hw 92 rfl)) (Or.inr (own_w hw 121 rfl)) (by decide) (t := (.array (.object "com/example/tracemass/tracemass/nets/Marking"))) (t' := (.array .boolean)) (by decide) (by decide)))
  have F268_fewest := F243_fewest.other W264 (Or.inr (slot_ne (Or.inl (own_w hw 96 rfl)) (Or.inr (own_w hw 121 rfl)) (by decide) (t := (.array (.array (.array .int)))) (t' := (.array .boolean)) (by decide) (by decide)))
  have F269_fewestTotal := F244_fewestTotal.other W264 (Or.inr (slot_ne (Or.inl (own_w hw 99 rfl)) (Or.inr (own_w hw 121 rfl)) (by decide) (t := (.array .long)) (t' := (.array .boolean)) (by decide) (by decide)))
  have F270_held := F245_held.other W264 (Or.inr (slot_ne (Or.inr (own_w hw 110 rfl)) (Or.inr (own_w hw 121 rfl)) (by decide) (t := (.object "com/example/tracemass/tracemass/qstates/SilentPath$Pairs")) (t' := (.array .boolean)) (by decide) (by decide)))
  have F271_other := F246_other.other W264 (Or.inr (slot_ne (Or.inr (own_w hw 112 rfl)) (Or.inr (own_w hw 121 rfl)) (by decide) (t := (.object "com/example/tracemass/tracemass/qstates/SilentPath$Pairs")) (t' := (.array .boolean)) (by decide) (by decide)))
  have F272_comparedCount := F247_comparedCount.other W264 (Or.inr (slot_ne (Or.inr (own_w hw 114 rfl)) (Or.inr (own_w hw 121 rfl)) (by decide) (t := .int) (t' := (.array .boolean)) (by decide) (by decide)))
  have F273_compared := F248_compared.same W264
  have F274_size := F249_size.other W264 (Or.inr (slot_ne (Or.inl (own_w hw 131 rfl)) (Or.inr (own_w hw 121 rfl)) (by decide) (t := .int) (t' := (.array .boolean)) (by decide) (by decide)))
  have V275_b2 := V250_b2.other W264 (Ne.symm ne_a_b2)
  have Y276_b2 := Y251_b2.wr W264
  have V277_b27 := V252_b27.other W264 (Ne.symm ne_a_b27)
  have Y278_b27 := Y253_b27.wr W264
  have E279_b27 := E254_b27.wr W264
  have V280_b57 := V255_b57.other W264 (Ne.symm ne_a_b57)
  have E281_b90 := E256_b90.wr W264
  have F282_values := F257_values.other W264 (Or.inl (Ne.symm ne_a_b90))
  have F283_length := F258_length.other W264 (Or.inl (Ne.symm ne_a_b90))
  have V284_hv107 := V259_hv107.other W264 (Ne.symm ne_a_hv107)
  have E285_b145 := E260_b145.wr W264
  have F286_values := F261_values.other W264 (Or.inl (Ne.symm ne_a_b145))
  have F287_length := F262_length.other W264 (Or.inl (Ne.symm ne_a_b145))
  have V288_hv166 := V263_hv166.other W264 (Ne.symm ne_a_hv166)
  have V289_b239 := V239.other W264 (Ne.symm ne_a_b239)
  have Z264 : n0 ≤ h264.size := by rw [W264.size]; exact Z239
  have N264 := Fr.snoc X264 N212 n0_a
  have K264 : Keep h0 h264 [a] := K239.wr W264 (Or.inl (List.mem_of_getElem? (i := 0) rfl))
  refine own_aloadN X264 hx hby d_86_1__106 rfl rfl (pc' := 107) rfl ?_
  refine own_astoreN X264 hx hby d_86_1__107 rfl (Ls' := #[.val (.ref a), .val (.ref ia), .val (.int (1 : Int32)), .val (.ref ia), .val (.int (2 : Int32)), .val (.int (2 : Int32)), .val (.int (1 : Int32))]) rfl (pc' := 108) rfl ?_
  refine own_aloadN X264 hx hby d_86_1__108 rfl rfl (pc' := 109) rfl ?_
  refine own_alen X264 hx hby hZ e264 (n := (2 : Int32)) V266_ia rfl d_86_1__109 (pc' := 110) rfl ?_
  refine own_istore X264 hx hby d_86_1__110  (Ls' := #[.val (.ref a), .val (.ref ia), .val (.int (1 : Int32)), .val (.ref ia), .val (.int (2 : Int32)), .val (.int (2 : Int32)), .val (.int (1 : Int32))]) rfl (pc' := 112) rfl ?_
  refine own_iconst X264 hx hby d_86_1__112 (v := (0 : Int32)) rfl (pc' := 113) rfl ?_
  refine own_istore X264 hx hby d_86_1__113  (Ls' := #[.val (.ref a), .val (.ref ia), .val (.int (1 : Int32)), .val (.ref ia), .val (.int (2 : Int32)), .val (.int (0 : Int32)), .val (.int (1 : Int32))]) rfl (pc' := 115) rfl ?_
  refine own_iload X264 hx hby d_86_1__115 rfl (pc' := 117) rfl ?_
  refine own_iload X264 hx hby d_86_1__117 rfl (pc' := 119) rfl ?_
  refine own_icmpN X264 hx hby d_86_1__119 (tlt (by decide)).2.1 (pc' := 122) rfl ?_
  refine own_aloadN X264 hx hby d_86_1__122 rfl rfl (pc' := 123) rfl ?_
  refine own_iload X264 hx hby d_86_1__123 rfl (pc' := 125) rfl ?_
  refine own_iaload X264 hx hby hZ e264 V266_ia (by decide) (v := (.int (0 : Int32))) rfl d_86_1__125 (pc' := 126) rfl ?_
  refine own_istore X264 hx hby d_86_1__126  (Ls' := #[.val (.ref a), .val (.ref ia), .val (.int (1 : Int32)), .val (.ref ia), .val (.int (2 : Int32)), .val (.int (0 : Int32)), .val (.int (0 : Int32))]) rfl (pc' := 128) rfl ?_
  refine own_aloadN X264 hx hby d_86_1__128 rfl rfl (pc' := 129) rfl ?_
  refine own_getF X264 hx hby hZ hown (host := "") (Or.inl (own_w hw 120 rfl)) Via.refl e264 F273_compared d_86_1__129 (pc' := 132) rfl ?_
  intro T290 X290 e290
  refine own_iload X290 hx hby d_86_1__132 rfl (pc' := 134) rfl ?_
  refine own_iconst X290 hx hby d_86_1__134 (v := (1 : Int32)) rfl (pc' := 135) rfl ?_
  refine own_bastoreZ X290 hx hby hZ e290 V289_b239 (by decide) (Nat.le_of_ble_eq_true rfl) d_86_1__135 (pc' := 136) rfl ?_
  intro T291 h291 X291 e291 W291 V291
  replace V291 : AV Z h291 b239 .boolean [(.int (1 : Int32)), (.int (0 : Int32))] := V291
  have E292_a := E265_a.wr W291
  have V293_ia := V266_ia.other W291 ne_ia_b239
  have F294_markings := F267_markings.other W291 (Or.inl ne_a_b239)
  have F295_fewest := F268_fewest.other W291 (Or.inl ne_a_b239)
  have F296_fewestTotal := F269_fewestTotal.other W291 (Or.inl ne_a_b239)
  have F297_held := F270_held.other W291 (Or.inl ne_a_b239)
  have F298_other := F271_other.other W291 (Or.inl ne_a_b239)
  have F299_comparedCount := F272_comparedCount.other W291 (Or.inl ne_a_b239)
  have F300_compared := F273_compared.other W291 (Or.inl ne_a_b239)
  have F301_size := F274_size.other W291 (Or.inl ne_a_b239)
  have V302_b2 := V275_b2.other W291 ne_b2_b239
  have Y303_b2 := Y276_b2.wr W291
  have V304_b27 := V277_b27.other W291 ne_b27_b239
  have Y305_b27 := Y278_b27.wr W291
  have E306_b27 := E279_b27.wr W291
  have V307_b57 := V280_b57.other W291 ne_b57_b239
  have E308_b90 := E281_b90.wr W291
  have F309_values := F282_values.other W291 (Or.inl ne_b90_b239)
  have F310_length := F283_length.other W291 (Or.inl ne_b90_b239)
  have V311_hv107 := V284_hv107.other W291 ne_hv107_b239
  have E312_b145 := E285_b145.wr W291
  have F313_values := F286_values.other W291 (Or.inl ne_b145_b239)
  have F314_length := F287_length.other W291 (Or.inl ne_b145_b239)
  have V315_hv166 := V288_hv166.other W291 ne_hv166_b239
  have Z291 : n0 ≤ h291.size := by rw [W291.size]; exact Z264
  have N291 := Fr.snoc X291 N264 n0_b239
  have K291 : Keep h0 h291 [a] := K264.wr W291 (Or.inr sz_b239)
  refine own_iinc X291 hx hby d_86_1__136 rfl (v := (1 : Int32)) rfl (Ls' := #[.val (.ref a), .val (.ref ia), .val (.int (1 : Int32)), .val (.ref ia), .val (.int (2 : Int32)), .val (.int (1 : Int32)), .val (.int (0 : Int32))]) rfl (pc' := 139) rfl ?_
  refine own_goto X291 hx hby d_86_1__139 (by decide) (pc' := 115) (by decide) ?_
  refine own_iload X291 hx hby d_86_1__115 rfl (pc' := 117) rfl ?_
  refine own_iload X291 hx hby d_86_1__117 rfl (pc' := 119) rfl ?_
  refine own_icmpN X291 hx hby d_86_1__119 (tlt (by decide)).2.1 (pc' := 122) rfl ?_
  refine own_aloadN X291 hx hby d_86_1__122 rfl rfl (pc' := 123) rfl ?_
  refine own_iload X291 hx hby d_86_1__123 rfl (pc' := 125) rfl ?_
  refine own_iaload X291 hx hby hZ e291 V293_ia (by decide) (v := (.int (1 : Int32))) rfl d_86_1__125 (pc' := 126) rfl ?_
  refine own_istore X291 hx hby d_86_1__126  (Ls' := #[.val (.ref a), .val (.ref ia), .val (.int (1 : Int32)), .val (.ref ia), .val (.int (2 : Int32)), .val (.int (1 : Int32)), .val (.int (1 : Int32))]) rfl (pc' := 128) rfl ?_
  refine own_aloadN X291 hx hby d_86_1__128 rfl rfl (pc' := 129) rfl ?_
  refine own_getF X291 hx hby hZ hown (host := "") (Or.inl (own_w hw 120 rfl)) Via.refl e291 F300_compared d_86_1__129 (pc' := 132) rfl ?_
  intro T317 X317 e317
  refine own_iload X317 hx hby d_86_1__132 rfl (pc' := 134) rfl ?_
  refine own_iconst X317 hx hby d_86_1__134 (v := (1 : Int32)) rfl (pc' := 135) rfl ?_
  refine own_bastoreZ X317 hx hby hZ e317 V291 (by decide) (Nat.le_of_ble_eq_true rfl) d_86_1__135 (pc' := 136) rfl ?_
  intro T318 h318 X318 e318 W318 V318
  replace V318 : AV Z h318 b239 .boolean [(.int (1 : Int32)), (.int (1 : Int32))] := V318
  have E319_a := E292_a.wr W318
  have V320_ia := V293_ia.other W318 ne_ia_b239
  have F321_markings := F294_markings.other W318 (Or.inl ne_a_b239)
  have F322_fewest := F295_fewest.other W318 (Or.inl ne_a_b239)
  have F323_fewestTotal := F296_fewestTotal.other W318 (Or.inl ne_a_b239)
  have F324_held := F297_held.other W318 (Or.inl ne_a_b239)
  have F325_other := F298_other.other W318 (Or.inl ne_a_b239)
  have F326_comparedCount := F299_comparedCount.other W318 (Or.inl ne_a_b239)
  have F327_compared := F300_compared.other W318 (Or.inl ne_a_b239)
  have F328_size := F301_size.other W318 (Or.inl ne_a_b239)
  have V329_b2 := V302_b2.other W318 ne_b2_b239
  have Y330_b2 := Y303_b2.wr W318
  have V331_b27 := V304_b27.other W318 ne_b27_b239
  have Y332_b27 := Y305_b27.wr W318
  have E333_b27 := E306_b27.wr W318
  have V334_b57 := V307_b57.other W318 ne_b57_b239
  have E335_b90 := E308_b90.wr W318
  have F336_values := F309_values.other W318 (Or.inl ne_b90_b239)
  have F337_length := F310_length.other W318 (Or.inl ne_b90_b239)
  have V338_hv107 := V311_hv107.other W318 ne_hv107_b239
  have E339_b145 := E312_b145.wr W318
  have F340_values := F313_values.other W318 (Or.inl ne_b145_b239)
  have F341_length := F314_length.other W318 (Or.inl ne_b145_b239)
  have V342_hv166 := V315_hv166.other W318 ne_hv166_b239
  have Z318 : n0 ≤ h318.size := by rw [W318.size]; exact Z291
  have N318 := Fr.snoc X318 N291 n0_b239
  have K318 : Keep h0 h318 [a] := K291.wr W318 (Or.inr sz_b239)
  refine own_iinc X318 hx hby d_86_1__136 rfl (v := (1 : Int32)) rfl (Ls' := #[.val (.ref a), .val (.ref ia), .val (.int (1 : Int32)), .val (.ref ia), .val (.int (2 : Int32)), .val (.int (2 : Int32)), .val (.int (1 : Int32))]) rfl (pc' := 139) rfl ?_
  refine own_goto X318 hx hby d_86_1__139 (by decide) (pc' := 115) (by decide) ?_
  refine own_iload X318 hx hby d_86_1__115 rfl (pc' := 117) rfl ?_
  refine own_iload X318 hx hby d_86_1__117 rfl (pc' := 119) rfl ?_
  refine own_icmpY X318 hx hby d_86_1__119 (flt (by decide)).2.1 (by decide) (pc' := 142) (by decide) ?_
  refine own_aloadN X318 hx hby d_86_1__142 rfl rfl (pc' := 143) rfl ?_
  refine own_getF X318 hx hby hZ hown (host := "") (Or.inl (own_w hw 95 rfl)) Via.refl e318 F322_fewest d_86_1__143 (pc' := 146) rfl ?_
  intro T344 X344 e344
  refine own_iconst X344 hx hby d_86_1__146 (v := (4 : Int32)) rfl (pc' := 147) rfl ?_
  refine own_iconst X344 hx hby d_86_1__147 (v := (1 : Int32)) rfl (pc' := 148) rfl ?_
  refine own_newRE X344 hx hby hZ hown (ty := .int) rfl (own_w hw 122 rfl) (own_w hw 123 rfl) e344 (ad := "[[I") rfl (by decide) 1 (by decide) (by decide) (by decide) (by decide) d_86_1__148 (pc' := 151) rfl ?_
  intro T345 h345 b345 X345 e345 E345 g345 V345 Y345 Q345
  have ne_a_b345 : a ≠ b345 := Nat.ne_of_lt (g345 ▸ E319_a.lt)
  have ne_ia_b345 : ia ≠ b345 := Nat.ne_of_lt (g345 ▸ V320_ia.lt)
  have ne_b2_b345 : b2 ≠ b345 := Nat.ne_of_lt (g345 ▸ V329_b2.lt)
  have ne_b27_b345 : b27 ≠ b345 := Nat.ne_of_lt (g345 ▸ V331_b27.lt)
  have ne_b57_b345 : b57 ≠ b345 := Nat.ne_of_lt (g345 ▸ V334_b57.lt)
  have ne_b90_b345 : b90 ≠ b345 := Nat.ne_of_lt (g345 ▸ E335_b90.lt)
  have ne_hv107_b345 : hv107 ≠ b345 := Nat.ne_of_lt (g345 ▸ V338_hv107.lt)
  have ne_b145_b345 : b145 ≠ b345 := Nat.ne_of_lt (g345 ▸ E339_b145.lt)
  have ne_hv166_b345 : hv166 ≠ b345 := Nat.ne_of_lt (g345 ▸ V342_hv166.lt)
  have ne_b239_b345 : b239 ≠ b345 := Nat.ne_of_lt (g345 ▸ V318.lt)
  have E346_a := E319_a.ext E345
  have V347_ia := V320_ia.ext E345
  have F348_markings := F321_markings.ext E345
  have F349_fewest := F322_fewest.ext E345
  have F350_fewestTotal := F323_fewestTotal.ext E345
  have F351_held := F324_held.ext E345
  have F352_other := F325_other.ext E345
  have F353_comparedCount := F326_comparedCount.ext E345
  have F354_compared := F327_compared.ext E345
  have F355_size := F328_size.ext E345
  have V356_b2 := V329_b2.ext E345
  have Y357_b2 := Y330_b2.ext E345
  have V358_b27 := V331_b27.ext E345
  have Y359_b27 := Y332_b27.ext E345
  have E360_b27 := E333_b27.ext E345
  have V361_b57 := V334_b57.ext E345
  have E362_b90 := E335_b90.ext E345
  have F363_values := F336_values.ext E345
  have F364_length := F337_length.ext E345
  have V365_hv107 := V338_hv107.ext E345
  have E366_b145 := E339_b145.ext E345
  have F367_values := F340_values.ext E345
  have F368_length := F341_length.ext E345
  have V369_hv166 := V342_hv166.ext E345
  have V370_b239 := V318.ext E345
  have Z345 : n0 ≤ h345.size := Nat.le_trans Z318 E345.1
  have n0_b345 : n0 ≤ b345 := g345 ▸ Z318
  have sz_b345 : h0.size ≤ b345 := g345 ▸ K318.1
  have K345 : Keep h0 h345 [a] := K318.ext E345
  replace V345 : AV Z h345 b345 (.array .int) [.null] := V345
  show GoP p e below Φ (T345.setTop (mkF m 151 #[.val (.ref a), .val (.ref ia), .val (.int (1 : Int32)), .val (.ref ia), .val (.int (2 : Int32)), .val (.int (2 : Int32)), .val (.int (1 : Int32))] [(.ref b345), (.int (4 : Int32)), (.ref b27)]))
  refine own_aastore X345 hx hby hZ e345 V358_b27 rfl (own_sto V358_b27 Y359_b27 (Ins.self Q345)) (by decide) (Nat.le_of_ble_eq_true rfl) d_86_1__151 (pc' := 152) rfl ?_
  intro T371 h371 X371 e371 W371 V371
  replace V371 : AV Z h371 b27 (.array (.array .int)) [.null, .null, .null, .null, (.ref b345)] := V371
  have E372_a := E346_a.wr W371
  have V373_ia := V347_ia.other W371 ne_ia_b27
  have F374_markings := F348_markings.other W371 (Or.inl ne_a_b27)
  have F375_fewest := F349_fewest.other W371 (Or.inl ne_a_b27)
  have F376_fewestTotal := F350_fewestTotal.other W371 (Or.inl ne_a_b27)
  have F377_held := F351_held.other W371 (Or.inl ne_a_b27)
  have F378_other := F352_other.other W371 (Or.inl ne_a_b27)
  have F379_comparedCount := F353_comparedCount.other W371 (Or.inl ne_a_b27)
  have F380_compared := F354_compared.other W371 (Or.inl ne_a_b27)
  have F381_size := F355_size.other W371 (Or.inl ne_a_b27)
  have V382_b2 := V356_b2.other W371 ne_b2_b27
  have Y383_b2 := Y357_b2.wr W371
  have Y385_b27 := Y359_b27.wr W371
  have E386_b27 := E360_b27.wr W371
  have V387_b57 := V361_b57.other W371 (Ne.symm ne_b27_b57)
  have E388_b90 := E362_b90.wr W371
  have F389_values := F363_values.other W371 (Or.inl (Ne.symm ne_b27_b90))
  have F390_length := F364_length.other W371 (Or.inl (Ne.symm ne_b27_b90))
  have V391_hv107 := V365_hv107.other W371 (Ne.symm ne_b27_hv107)
  have E392_b145 := E366_b145.wr W371
  have F393_values := F367_values.other W371 (Or.inl (Ne.symm ne_b27_b145))
  have F394_length := F368_length.other W371 (Or.inl (Ne.symm ne_b27_b145))
  have V395_hv166 := V369_hv166.other W371 (Ne.symm ne_b27_hv166)
  have V396_b239 := V370_b239.other W371 (Ne.symm ne_b27_b239)
  have V397_b345 := V345.other W371 (Ne.symm ne_b27_b345)
  have Y398_b345 := Y345.wr W371
  have E399_b345 := Q345.wr W371
  have Z371 : n0 ≤ h371.size := by rw [W371.size]; exact Z345
  have N371 := Fr.snoc X371 N318 n0_b27
  have K371 : Keep h0 h371 [a] := K345.wr W371 (Or.inr sz_b27)
  exact own_ret0 X371 hx hby fin hret d_86_1__152 (by decide) (by decide) (by rw [e371]; exact ⟨rfl, N371, K371, b2, b57, b90, b145, b239, hv107, hv166, sz_b2, sz_b57, sz_b90, sz_b145, sz_b239, sz_hv107, sz_hv166, ne_b90_b145, E372_a, F374_markings, F376_fewestTotal, F377_held, F378_other, F379_comparedCount, F380_compared, F381_size, V382_b2, Y383_b2, V387_b57, V396_b239, E388_b90, F389_values, F390_length, V391_hv107, E392_b145, F393_values, F394_length, V395_hv166⟩)
theorem ef_rmAd0 (m : MethodId) (x0 : Addr) (x1 : Addr) : entryFrame m #[(.ref x0), (.ref x1)] 6 = mkF m 0 #[.val (.ref x0), .val (.ref x1), .unset, .unset, .unset, .unset] [] := by first | (simp [entryFrame, mkF, argsToLocals, Value.category]; done) | rfl
theorem d_86_2__0 : decode prog_86_method_2_code 0 = .ok (.aload_n 0, 1) := by decide +kernel
theorem d_86_2__1 : decode prog_86_method_2_code 1 = .ok (.getfield 51, 3) := by decide +kernel
theorem d_86_2__4 : decode prog_86_method_2_code 4 = .ok (.aload_n 0, 1) := by decide +kernel
theorem d_86_2__5 : decode prog_86_method_2_code 5 = .ok (.getfield 11, 3) := by decide +kernel
theorem d_86_2__8 : decode prog_86_method_2_code 8 = .ok (.arraylength, 1) := by decide +kernel
theorem d_86_2__9 : decode prog_86_method_2_code 9 = .ok (.if_icmp .ne 7, 3) := by decide +kernel
theorem d_86_2__16 : decode prog_86_method_2_code 16 = .ok (.aload_n 0, 1) := by decide +kernel
theorem d_86_2__17 : decode prog_86_method_2_code 17 = .ok (.aload_n 1, 1) := by decide +kernel
theorem d_86_2__18 : decode prog_86_method_2_code 18 = .ok (.invokevirtual 57, 3) := by decide +kernel
theorem pd__Lcom_example_tracemass_tracemass_nets_Marking__J : parseMethodDescriptor "(Lcom/example/tracemass/tracemass/nets/Marking;)J" = some ⟨[(.object "com/example/tracemass/tracemass/nets/Marking")], some .long⟩ := by decide +kernel
theorem d_86_2__21 : decode prog_86_method_2_code 21 = .ok (.lstore_n 2, 1) := by decide +kernel
theorem d_86_2__22 : decode prog_86_method_2_code 22 = .ok (.aload_n 0, 1) := by decide +kernel
theorem d_86_2__23 : decode prog_86_method_2_code 23 = .ok (.getfield 21, 3) := by decide +kernel
theorem d_86_2__26 : decode prog_86_method_2_code 26 = .ok (.aload_n 0, 1) := by decide +kernel
theorem d_86_2__27 : decode prog_86_method_2_code 27 = .ok (.getfield 51, 3) := by decide +kernel
theorem d_86_2__30 : decode prog_86_method_2_code 30 = .ok (.aload_n 0, 1) := by decide +kernel
theorem d_86_2__31 : decode prog_86_method_2_code 31 = .ok (.getfield 51, 3) := by decide +kernel
theorem d_86_2__34 : decode prog_86_method_2_code 34 = .ok (.ifCond .ne 7, 3) := by decide +kernel
theorem d_86_2__37 : decode prog_86_method_2_code 37 = .ok (.lload_n 2, 1) := by decide +kernel
theorem d_86_2__38 : decode prog_86_method_2_code 38 = .ok (.goto 18, 3) := by decide +kernel
theorem d_86_2__56 : decode prog_86_method_2_code 56 = .ok (.lastore, 1) := by decide +kernel
theorem d_86_2__57 : decode prog_86_method_2_code 57 = .ok (.aload_n 0, 1) := by decide +kernel
theorem d_86_2__58 : decode prog_86_method_2_code 58 = .ok (.getfield 11, 3) := by decide +kernel
theorem d_86_2__61 : decode prog_86_method_2_code 61 = .ok (.aload_n 0, 1) := by decide +kernel
theorem d_86_2__62 : decode prog_86_method_2_code 62 = .ok (.dup, 1) := by decide +kernel
theorem d_86_2__63 : decode prog_86_method_2_code 63 = .ok (.getfield 51, 3) := by decide +kernel
theorem d_86_2__66 : decode prog_86_method_2_code 66 = .ok (.dup_x1, 1) := by decide +kernel
theorem d_86_2__67 : decode prog_86_method_2_code 67 = .ok (.iconst 1, 1) := by decide +kernel
theorem d_86_2__68 : decode prog_86_method_2_code 68 = .ok (.iadd, 1) := by decide +kernel
theorem d_86_2__69 : decode prog_86_method_2_code 69 = .ok (.putfield 51, 3) := by decide +kernel
theorem d_86_2__72 : decode prog_86_method_2_code 72 = .ok (.aload_n 1, 1) := by decide +kernel
theorem d_86_2__73 : decode prog_86_method_2_code 73 = .ok (.aastore, 1) := by decide +kernel
theorem d_86_2__74 : decode prog_86_method_2_code 74 = .ok (.iconst 4, 1) := by decide +kernel
theorem d_86_2__75 : decode prog_86_method_2_code 75 = .ok (.istore 4, 2) := by decide +kernel
theorem d_86_2__77 : decode prog_86_method_2_code 77 = .ok (.aload_n 0, 1) := by decide +kernel
theorem d_86_2__78 : decode prog_86_method_2_code 78 = .ok (.getfield 51, 3) := by decide +kernel
theorem d_86_2__81 : decode prog_86_method_2_code 81 = .ok (.iconst 1, 1) := by decide +kernel
theorem d_86_2__82 : decode prog_86_method_2_code 82 = .ok (.iload 4, 2) := by decide +kernel
theorem d_86_2__84 : decode prog_86_method_2_code 84 = .ok (.ishl, 1) := by decide +kernel
theorem d_86_2__85 : decode prog_86_method_2_code 85 = .ok (.irem, 1) := by decide +kernel
theorem d_86_2__86 : decode prog_86_method_2_code 86 = .ok (.ifCond .ne 100, 3) := by decide +kernel
theorem d_86_2__186 : decode prog_86_method_2_code 186 = .ok (.return_, 1) := by decide +kernel
set_option maxRecDepth 65536 in
set_option maxHeartbeats 40000000 in
theorem rmAd0 (l : Launch) (Z : State) (a0 : Array Value) (hw : ∀ d ∈ tables_1, d.before a0 Z = true) (a mks ft hl ot cp  : Addr) (mk ct : Addr) (mv : Value) (mc : Int32) (vs : List Value) (x y : Int32)  (n0 : Nat) (h0 : Heap) (n0_a : n0 ≤ a) (n0_ft : n0 ≤ ft) (n0_mks : n0 ≤ mks) (E : Exa Z h0 a "com/example/tracemass/tracemass/qstates/SilentPath") (P_markings : Fld Z h0 a "com/example/tracemass/tracemass/qstates/SilentPath" "markings" "[Lcom/example/tracemass/tracemass/nets/Marking;" (.ref mks)) (P_fewestTotal : Fld Z h0 a "com/example/tracemass/tracemass/qstates/SilentPath" "fewestTotal" "[J" (.ref ft)) (P_held : Fld Z h0 a "com/example/tracemass/tracemass/qstates/SilentPath" "held" "Lcom/example/tracemass/tracemass/qstates/SilentPath$Pairs;" (.ref hl)) (P_other : Fld Z h0 a "com/example/tracemass/tracemass/qstates/SilentPath" "other" "Lcom/example/tracemass/tracemass/qstates/SilentPath$Pairs;" (.ref ot)) (P_comparedCount : Fld Z h0 a "com/example/tracemass/tracemass/qstates/SilentPath" "comparedCount" "I" (.int (2 : Int32))) (P_compared : Fld Z h0 a "com/example/tracemass/tracemass/qstates/SilentPath" "compared" "[Z" (.ref cp)) (P_size : Fld Z h0 a "com/example/tracemass/tracemass/qstates/SilentPath" "size" "I" (.int (0 : Int32))) (Vs : AV Z h0 mks (.object "com/example/tracemass/tracemass/nets/Marking") [.null, .null, .null, .null, .null, .null, .null, .null, .null, .null, .null, .null, .null, .null, .null, .null]) (Ys : CM Z h0 mks "com/example/tracemass/tracemass/nets/Marking") (Vt : AV Z h0 ft .long [(.long (0 : Int64)), (.long (0 : Int64)), (.long (0 : Int64)), (.long (0 : Int64)), (.long (0 : Int64)), (.long (0 : Int64)), (.long (0 : Int64)), (.long (0 : Int64)), (.long (0 : Int64)), (.long (0 : Int64)), (.long (0 : Int64)), (.long (0 : Int64)), (.long (0 : Int64)), (.long (0 : Int64)), (.long (0 : Int64)), (.long (0 : Int64))]) (Vp : AV Z h0 cp .boolean [.int 1, .int 1]) (Em : Exa Z h0 mk "com/example/tracemass/tracemass/nets/Marking") (Fm : Fld Z h0 mk "com/example/tracemass/tracemass/nets/Marking" "marked" "[I" mv) (Fc : Fld Z h0 mk "com/example/tracemass/tracemass/nets/Marking" "counts" "[I" (.ref ct)) (Fk : Fld Z h0 mk "com/example/tracemass/tracemass/nets/Marking" "markedCount" "I" (.int mc)) (Vm : AV Z h0 ct .int vs) (hf : own_fm mv mc vs x y) : Con l Z (⟨"com/example/tracemass/tracemass/qstates/SilentPath", "add", "(Lcom/example/tracemass/tracemass/nets/Marking;)V"⟩ : MethodName) prog_86_method_2_code 6 none [] ({ frames := 2, cells := 0, slots := 0, locals := 44 } : Room) #[(.ref a), (.ref mk)] h0 (fun v h L => v = none ∧ Fr n0 L ∧ Keep h0 h [a, ft, mks] ∧ Fld Z h a "com/example/tracemass/tracemass/qstates/SilentPath" "markings" "[Lcom/example/tracemass/tracemass/nets/Marking;" (.ref mks) ∧ Fld Z h a "com/example/tracemass/tracemass/qstates/SilentPath" "fewestTotal" "[J" (.ref ft) ∧ Fld Z h a "com/example/tracemass/tracemass/qstates/SilentPath" "held" "Lcom/example/tracemass/tracemass/qstates/SilentPath$Pairs;" (.ref hl) ∧ Fld Z h a "com/example/tracemass/tracemass/qstates/SilentPath" "other" "Lcom/example/tracemass/tracemass/qstates/SilentPath$Pairs;" (.ref ot) ∧ Fld Z h a "com/example/tracemass/tracemass/qstates/SilentPath" "comparedCount" "I" (.int (2 : Int32)) ∧ Fld Z h a "com/example/tracemass/tracemass/qstates/SilentPath" "compared" "[Z" (.ref cp) ∧ Fld Z h a "com/example/tracemass/tracemass/qstates/SilentPath" "size" "I" (.int (1 : Int32)) ∧ AV Z h mks (.object "com/example/tracemass/tracemass/nets/Marking") [(.ref mk), .null, .null, .null, .null, .null, .null, .null, .null, .null, .null, .null, .null, .null, .null, .null] ∧ AV Z h ft .long [(.long (own_tot x y)), (.long (0 : Int64)), (.long (0 : Int64)), (.long (0 : Int64)), (.long (0 : Int64)), (.long (0 : Int64)), (.long (0 : Int64)), (.long (0 : Int64)), (.long (0 : Int64)), (.long (0 : Int64)), (.long (0 : Int64)), (.long (0 : Int64)), (.long (0 : Int64)), (.long (0 : Int64)), (.long (0 : Int64)), (.long (0 : Int64))]) := by
  refine Con.of (plainFor_of_name pn_com_example_tracemass_tracemass_qstates_SilentPath) ?_
  intro p e s m below meth c T X hx hby hml hown hnm hret eT hZ hsh Φ fin
  replace hown : s.vm.findClass "com/example/tracemass/tracemass/qstates/SilentPath" = some m.cls := hown
  replace hml : 6 = c.maxLocals := hml.symm
  refine own_step (fun tq kq => castTop (ef_rmAd0 m a mk) kq) ?_
  have N0 := Fr.nil n0
  have K0 : Keep h0 h0 [a, ft, mks] := Keep.refl h0 [a, ft, mks]
  refine own_aloadN X hx hby d_86_2__0 rfl rfl (pc' := 1) rfl ?_
  refine own_getF X hx hby hZ hown (host := "") (Or.inl (own_w hw 130 rfl)) Via.refl eT P_size d_86_2__1 (pc' := 4) rfl ?_
  intro T1 X1 e1
  refine own_aloadN X1 hx hby d_86_2__4 rfl rfl (pc' := 5) rfl ?_
  refine own_getF X1 hx hby hZ hown (host := "") (Or.inl (own_w hw 91 rfl)) Via.refl e1 P_markings d_86_2__5 (pc' := 8) rfl ?_
  intro T2 X2 e2
  refine own_alen X2 hx hby hZ e2 (n := (16 : Int32)) Vs rfl d_86_2__8 (pc' := 9) rfl ?_
  refine own_icmpY X2 hx hby d_86_2__9 (feq (by decide)).2 (by decide) (pc' := 16) (by decide) ?_
  refine own_aloadN X2 hx hby d_86_2__16 rfl rfl (pc' := 17) rfl ?_
  refine own_aloadN X2 hx hby d_86_2__17 rfl rfl (pc' := 18) rfl ?_
  refine own_callP X2 hx hby hZ (by exact hml) hown (own_w hw 132 rfl) (own_w hw 134 rfl) (own_selfsel (z := ({ cls := "com/example/tracemass/tracemass/qstates/SilentPath", name := "add", desc := "(Lcom/example/tracemass/tracemass/nets/Marking;)V" } : Jvm.MethodName)) (own_w hw 133 rfl) (own_w hw 134 rfl) rfl (own_w hw 128 rfl) (by decide)) (own_w hw 133 rfl) (own_w hw 84 rfl) (own_w hw 135 rfl) (by decide) e2 0 (by decide) (by decide) (by decide) (by decide) (argsL := [(.ref mk)]) (rest := []) (lenOf pd__Lcom_example_tracemass_tracemass_nets_Marking__J rfl) rfl (Nat.le_of_eq rfl) E (rmCT l Z a0 hw a cp mk ct mv mc vs x y h0 P_compared Vp Em Fm Fc Fk Vm hf) d_86_2__18 (pc' := 21) rfl ?_
  intro v3 T3 L3 X3 hQ3
  obtain ⟨rfl, rfl, e3⟩ := hQ3
  rw [List.append_nil] at X3
  replace e3 : T3.heap = h0 := e3
  show GoP p e below Φ (T3.setTop (mkF m 21 #[.val (.ref a), .val (.ref mk), .unset, .unset, .unset, .unset] [(.long (own_tot x y))]))
  refine own_lstoreN X3 hx hby d_86_2__21  (Ls' := #[.val (.ref a), .val (.ref mk), .val (.long (own_tot x y)), .second, .unset, .unset]) rfl (pc' := 22) rfl ?_
  refine own_aloadN X3 hx hby d_86_2__22 rfl rfl (pc' := 23) rfl ?_
  refine own_getF X3 hx hby hZ hown (host := "") (Or.inl (own_w hw 98 rfl)) Via.refl e3 P_fewestTotal d_86_2__23 (pc' := 26) rfl ?_
  intro T4 X4 e4
  refine own_aloadN X4 hx hby d_86_2__26 rfl rfl (pc' := 27) rfl ?_
  refine own_getF X4 hx hby hZ hown (host := "") (Or.inl (own_w hw 130 rfl)) Via.refl e4 P_size d_86_2__27 (pc' := 30) rfl ?_
  intro T5 X5 e5
  refine own_aloadN X5 hx hby d_86_2__30 rfl rfl (pc' := 31) rfl ?_
  refine own_getF X5 hx hby hZ hown (host := "") (Or.inl (own_w hw 130 rfl)) Via.refl e5 P_size d_86_2__31 (pc' := 34) rfl ?_
  intro T6 X6 e6
  refine own_ifN X6 hx hby d_86_2__34 ((if0 _ _).trans (teq (by decide)).2) (pc' := 37) rfl ?_
  refine own_lloadN X6 hx hby d_86_2__37 rfl (pc' := 38) rfl ?_
  refine own_goto X6 hx hby d_86_2__38 (by decide) (pc' := 56) (by decide) ?_
  refine own_lastore X6 hx hby hZ e6 Vt (by decide) (Nat.le_of_ble_eq_true rfl) d_86_2__56 (pc' := 57) rfl ?_
  intro T7 h7 X7 e7 W7 V7
  replace V7 : AV Z h7 ft .long [(.long (own_tot x y)), (.long (0 : Int64)), (.long (0 : Int64)), (.long (0 : Int64)), (.long (0 : Int64)), (.long (0 : Int64)), (.long (0 : Int64)), (.long (0 : Int64)), (.long (0 : Int64)), (.long (0 : Int64)), (.long (0 : Int64)), (.long (0 : Int64)), (.long (0 : Int64)), (.long (0 : Int64)), (.long (0 : Int64)), (.long (0 : Int64))] := V7
  have nt8 : a ≠ ft := own_ne_av E (own_w hw 83 rfl) Vt
  have nt9 : mks ≠ ft := own_ne_av2 Vs Vt (by decide)
  have E10_a := E.wr W7
  have F11_markings := P_markings.other W7 (Or.inl nt8)
  have F12_fewestTotal := P_fewestTotal.other W7 (Or.inl nt8)
  have F13_held := P_held.other W7 (Or.inl nt8)
  have F14_other := P_other.other W7 (Or.inl nt8)
  have F15_comparedCount := P_comparedCount.other W7 (Or.inl nt8)
  have F16_compared := P_compared.other W7 (Or.inl nt8)
  have F17_size := P_size.other W7 (Or.inl nt8)
  have V18_mks := Vs.other W7 nt9
  have Y19_mks := Ys.wr W7
  have E21_mk := Em.wr W7
  have N7 := Fr.snoc X7 N0 n0_ft
  have K7 : Keep h0 h7 [a, ft, mks] := K0.wr W7 (Or.inl (List.mem_of_getElem? (i := 1) rfl))
  refine own_aloadN X7 hx hby d_86_2__57 rfl rfl (pc' := 58) rfl ?_
  refine own_getF X7 hx hby hZ hown (host := "") (Or.inl (own_w hw 91 rfl)) Via.refl e7 F11_markings d_86_2__58 (pc' := 61) rfl ?_
  intro T22 X22 e22
  refine own_aloadN X22 hx hby d_86_2__61 rfl rfl (pc' := 62) rfl ?_
  refine own_dup X22 hx hby d_86_2__62 rfl (pc' := 63) rfl ?_
  refine own_getF X22 hx hby hZ hown (host := "") (Or.inl (own_w hw 130 rfl)) Via.refl e22 F17_size d_86_2__63 (pc' := 66) rfl ?_
  intro T23 X23 e23
  refine own_dup_x1 X23 hx hby d_86_2__66 rfl rfl (pc' := 67) rfl ?_
  refine own_iconst X23 hx hby d_86_2__67 (v := (1 : Int32)) rfl (pc' := 68) rfl ?_
  refine own_iadd X23 hx hby d_86_2__68 (pc' := 69) rfl ?_
  show GoP p e below Φ (T23.setTop (mkF m 69 #[.val (.ref a), .val (.ref mk), .val (.long (own_tot x y)), .second, .unset, .unset] [(.int (1 : Int32)), (.ref a), (.int (0 : Int32)), (.ref mks)]))
  refine own_putF X23 hx hby hZ hown (host := "") (Or.inl (own_w hw 130 rfl)) Via.refl e23 F17_size E10_a (Or.inl (own_w hw 131 rfl)) (own_w hw 83 rfl) (ty := .int) (by decide) rfl rfl d_86_2__69 (pc' := 72) rfl ?_
  intro T24 h24 X24 e24 W24
  have nt25 : mks ≠ a := (own_ne_av E10_a (own_w hw 83 rfl) V18_mks).symm
  have E26_a := E10_a.wr W24
  have F27_markings := F11_markings.other W24 (Or.inr (slot_ne (Or.inl (own_w hw 92 rfl)) (Or.inl (own_w hw 131 rfl)) (by decide) (t := (.array (.object "com/example/tracemass/tracemass/nets/Marking"))) (t' := .int) (by decide) (by decide)))
  have F28_fewestTotal := F12_fewestTotal.other W24 (Or.inr (slot_ne (Or.inl (own_w hw 99 rfl)) (Or.inl (own_w hw 131 rfl)) (by decide) (t := (.array .long)) (t' := .int) (by decide) (by decide)))
  have F29_held := F13_held.other W24 (Or.inr (slot_ne (Or.inr (own_w hw 110 rfl)) (Or.inl (own_w hw 131 rfl)) (by decide) (t := (.object "com/example/tracemass/tracemass/qstates/SilentPath$Pairs")) (t' := .int) (by decide) (by decide)))
  have F30_other := F14_other.other W24 (Or.inr (slot_ne (Or.inr (own_w hw 112 rfl)) (Or.inl (own_w hw 131 rfl)) (by decide) (t := (.object "com/example/tracemass/tracemass/qstates/SilentPath$Pairs")) (t' := .int) (by decide) (by decide)))
  have F31_comparedCount := F15_comparedCount.other W24 (Or.inr (slot_ne (Or.inr (own_w hw 114 rfl)) (Or.inl (own_w hw 131 rfl)) (by decide) (t := .int) (t' := .int) (by decide) (by decide)))
  have F32_compared := F16_compared.other W24 (Or.inr (slot_ne (Or.inr (own_w hw 121 rfl)) (Or.inl (own_w hw 131 rfl)) (by decide) (t := (.array .boolean)) (t' := .int) (by decide) (by decide)))
  have F33_size := F17_size.same W24
  have V34_mks := V18_mks.other W24 nt25
  have Y35_mks := Y19_mks.wr W24
  have V36_ft := V7.other W24 (Ne.symm nt8)
  have E37_mk := E21_mk.wr W24
  have N24 := Fr.snoc X24 N7 n0_a
  have K24 : Keep h0 h24 [a, ft, mks] := K7.wr W24 (Or.inl (List.mem_of_getElem? (i := 0) rfl))
  refine own_aloadN X24 hx hby d_86_2__72 rfl rfl (pc' := 73) rfl ?_
  refine own_aastore X24 hx hby hZ e24 V34_mks rfl (own_sto V34_mks Y35_mks (Ins.self E37_mk)) (by decide) (Nat.le_of_ble_eq_true rfl) d_86_2__73 (pc' := 74) rfl ?_
  intro T38 h38 X38 e38 W38 V38
  replace V38 : AV Z h38 mks (.object "com/example/tracemass/tracemass/nets/Marking") [(.ref mk), .null, .null, .null, .null, .null, .null, .null, .null, .null, .null, .null, .null, .null, .null, .null] := V38
  have E39_a := E26_a.wr W38
  have F40_markings := F27_markings.other W38 (Or.inl (Ne.symm nt25))
  have F41_fewestTotal := F28_fewestTotal.other W38 (Or.inl (Ne.symm nt25))
  have F42_held := F29_held.other W38 (Or.inl (Ne.symm nt25))
  have F43_other := F30_other.other W38 (Or.inl (Ne.symm nt25))
  have F44_comparedCount := F31_comparedCount.other W38 (Or.inl (Ne.symm nt25))
  have F45_compared := F32_compared.other W38 (Or.inl (Ne.symm nt25))
  have F46_size := F33_size.other W38 (Or.inl (Ne.symm nt25))
  have Y48_mks := Y35_mks.wr W38
  have V49_ft := V36_ft.other W38 (Ne.symm nt9)
  have E50_mk := E37_mk.wr W38
  have N38 := Fr.snoc X38 N24 n0_mks
  have K38 : Keep h0 h38 [a, ft, mks] := K24.wr W38 (Or.inl (List.mem_of_getElem? (i := 2) rfl))
  refine own_iconst X38 hx hby d_86_2__74 (v := (4 : Int32)) rfl (pc' := 75) rfl ?_
  refine own_istore X38 hx hby d_86_2__75  (Ls' := #[.val (.ref a), .val (.ref mk), .val (.long (own_tot x y)), .second, .val (.int (4 : Int32)), .unset]) rfl (pc' := 77) rfl ?_
  refine own_aloadN X38 hx hby d_86_2__77 rfl rfl (pc' := 78) rfl ?_
  refine own_getF X38 hx hby hZ hown (host := "") (Or.inl (own_w hw 130 rfl)) Via.refl e38 F46_size d_86_2__78 (pc' := 81) rfl ?_
  intro T51 X51 e51
  refine own_iconst X51 hx hby d_86_2__81 (v := (1 : Int32)) rfl (pc' := 82) rfl ?_
  refine own_iload X51 hx hby d_86_2__82 rfl (pc' := 84) rfl ?_
  refine own_ishl X51 hx hby d_86_2__84 (pc' := 85) rfl ?_
  show GoP p e below Φ (T51.setTop (mkF m 85 #[.val (.ref a), .val (.ref mk), .val (.long (own_tot x y)), .second, .val (.int (4 : Int32)), .unset] [(.int (16 : Int32)), (.int (1 : Int32))]))
  refine own_irem X51 hx hby d_86_2__85 (by decide) (pc' := 86) rfl ?_
  refine own_ifY X51 hx hby d_86_2__86 ((if0 _ _).trans (feq (by decide)).2) (by decide) (pc' := 186) (by decide) ?_
  exact own_ret0 X51 hx hby fin hret d_86_2__186 (by decide) (by decide) (by rw [e51]; exact ⟨rfl, N38, K38, F40_markings, F41_fewestTotal, F42_held, F43_other, F44_comparedCount, F45_compared, F46_size, V38, V49_ft⟩)
theorem ef_rmAd1 (m : MethodId) (x0 : Addr) (x1 : Addr) : entryFrame m #[(.ref x0), (.ref x1)] 6 = mkF m 0 #[.val (.ref x0), .val (.ref x1), .unset, .unset, .unset, .unset] [] := by first | (simp [entryFrame, mkF, argsToLocals, Value.category]; done) | rfl
theorem d_86_2__41 : decode prog_86_method_2_code 41 = .ok (.aload_n 0, 1) := by decide +kernel
theorem d_86_2__42 : decode prog_86_method_2_code 42 = .ok (.getfield 21, 3) := by decide +kernel
theorem d_86_2__45 : decode prog_86_method_2_code 45 = .ok (.aload_n 0, 1) := by decide +kernel
theorem d_86_2__46 : decode prog_86_method_2_code 46 = .ok (.getfield 51, 3) := by decide +kernel
theorem d_86_2__49 : decode prog_86_method_2_code 49 = .ok (.iconst 1, 1) := by decide +kernel
theorem d_86_2__50 : decode prog_86_method_2_code 50 = .ok (.isub, 1) := by decide +kernel
theorem d_86_2__51 : decode prog_86_method_2_code 51 = .ok (.laload, 1) := by decide +kernel
theorem d_86_2__52 : decode prog_86_method_2_code 52 = .ok (.lload_n 2, 1) := by decide +kernel
theorem d_86_2__53 : decode prog_86_method_2_code 53 = .ok (.invokestatic 61, 3) := by decide +kernel
theorem pd__JJ_J : parseMethodDescriptor "(JJ)J" = some ⟨[.long, .long], some .long⟩ := by decide +kernel
set_option maxRecDepth 65536 in
set_option maxHeartbeats 40000000 in
theorem rmAd1 (l : Launch) (Z : State) (a0 : Array Value) (hw : ∀ d ∈ tables_1, d.before a0 Z = true) (a mks ft hl ot cp m0 : Addr) (mk ct : Addr) (mv : Value) (mc : Int32) (vs : List Value) (x y : Int32) (t0 : Int64) (n0 : Nat) (h0 : Heap) (n0_a : n0 ≤ a) (n0_ft : n0 ≤ ft) (n0_mks : n0 ≤ mks) (E : Exa Z h0 a "com/example/tracemass/tracemass/qstates/SilentPath") (P_markings : Fld Z h0 a "com/example/tracemass/tracemass/qstates/SilentPath" "markings" "[Lcom/example/tracemass/tracemass/nets/Marking;" (.ref mks)) (P_fewestTotal : Fld Z h0 a "com/example/tracemass/tracemass/qstates/SilentPath" "fewestTotal" "[J" (.ref ft)) (P_held : Fld Z h0 a "com/example/tracemass/tracemass/qstates/SilentPath" "held" "Lcom/example/tracemass/tracemass/qstates/SilentPath$Pairs;" (.ref hl)) (P_other : Fld Z h0 a "com/example/tracemass/tracemass/qstates/SilentPath" "other" "Lcom/example/tracemass/tracemass/qstates/SilentPath$Pairs;" (.ref ot)) (P_comparedCount : Fld Z h0 a "com/example/tracemass/tracemass/qstates/SilentPath" "comparedCount" "I" (.int (2 : Int32))) (P_compared : Fld Z h0 a "com/example/tracemass/tracemass/qstates/SilentPath" "compared" "[Z" (.ref cp)) (P_size : Fld Z h0 a "com/example/tracemass/tracemass/qstates/SilentPath" "size" "I" (.int (1 : Int32))) (Vs : AV Z h0 mks (.object "com/example/tracemass/tracemass/nets/Marking") [(.ref m0), .null, .null, .null, .null, .null, .null, .null, .null, .null, .null, .null, .null, .null, .null, .null]) (Ys : CM Z h0 mks "com/example/tracemass/tracemass/nets/Marking") (Vt : AV Z h0 ft .long [(.long t0), (.long (0 : Int64)), (.long (0 : Int64)), (.long (0 : Int64)), (.long (0 : Int64)), (.long (0 : Int64)), (.long (0 : Int64)), (.long (0 : Int64)), (.long (0 : Int64)), (.long (0 : Int64)), (.long (0 : Int64)), (.long (0 : Int64)), (.long (0 : Int64)), (.long (0 : Int64)), (.long (0 : Int64)), (.long (0 : Int64))]) (Vp : AV Z h0 cp .boolean [.int 1, .int 1]) (Em : Exa Z h0 mk "com/example/tracemass/tracemass/nets/Marking") (Fm : Fld Z h0 mk "com/example/tracemass/tracemass/nets/Marking" "marked" "[I" mv) (Fc : Fld Z h0 mk "com/example/tracemass/tracemass/nets/Marking" "counts" "[I" (.ref ct)) (Fk : Fld Z h0 mk "com/example/tracemass/tracemass/nets/Marking" "markedCount" "I" (.int mc)) (Vm : AV Z h0 ct .int vs) (hf : own_fm mv mc vs x y) : Con l Z (⟨"com/example/tracemass/tracemass/qstates/SilentPath", "add", "(Lcom/example/tracemass/tracemass/nets/Marking;)V"⟩ : MethodName) prog_86_method_2_code 6 none [] ({ frames := 2, cells := 0, slots := 0, locals := 44 } : Room) #[(.ref a), (.ref mk)] h0 (fun v h L => ∃ rr : Int64, v = none ∧ Fr n0 L ∧ Keep h0 h [a, ft, mks] ∧ Fld Z h a "com/example/tracemass/tracemass/qstates/SilentPath" "markings" "[Lcom/example/tracemass/tracemass/nets/Marking;" (.ref mks) ∧ Fld Z h a "com/example/tracemass/tracemass/qstates/SilentPath" "fewestTotal" "[J" (.ref ft) ∧ Fld Z h a "com/example/tracemass/tracemass/qstates/SilentPath" "held" "Lcom/example/tracemass/tracemass/qstates/SilentPath$Pairs;" (.ref hl) ∧ Fld Z h a "com/example/tracemass/tracemass/qstates/SilentPath" "other" "Lcom/example/tracemass/tracemass/qstates/SilentPath$Pairs;" (.ref ot) ∧ Fld Z h a "com/example/tracemass/tracemass/qstates/SilentPath" "comparedCount" "I" (.int (2 : Int32)) ∧ Fld Z h a "com/example/tracemass/tracemass/qstates/SilentPath" "compared" "[Z" (.ref cp) ∧ Fld Z h a "com/example/tracemass/tracemass/qstates/SilentPath" "size" "I" (.int (2 : Int32)) ∧ AV Z h mks (.object "com/example/tracemass/tracemass/nets/Marking") [(.ref m0), (.ref mk), .null, .null, .null, .null, .null, .null, .null, .null, .null, .null, .null, .null, .null, .null] ∧ AV Z h ft .long [(.long t0), (.long rr), (.long (0 : Int64)), (.long (0 : Int64)), (.long (0 : Int64)), (.long (0 : Int64)), (.long (0 : Int64)), (.long (0 : Int64)), (.long (0 : Int64)), (.long (0 : Int64)), (.long (0 : Int64)), (.long (0 : Int64)), (.long (0 : Int64)), (.long (0 : Int64)), (.long (0 : Int64)), (.long (0 : Int64))]) := by
  refine Con.of (plainFor_of_name pn_com_example_tracemass_tracemass_qstates_SilentPath) ?_
  intro p e s m below meth c T X hx hby hml hown hnm hret eT hZ hsh Φ fin
  replace hown : s.vm.findClass "com/example/tracemass/tracemass/qstates/SilentPath" = some m.cls := hown
  replace hml : 6 = c.maxLocals := hml.symm
  refine own_step (fun tq kq => castTop (ef_rmAd1 m a mk) kq) ?_
  have N0 := Fr.nil n0
  have K0 : Keep h0 h0 [a, ft, mks] := Keep.refl h0 [a, ft, mks]
  refine own_aloadN X hx hby d_86_2__0 rfl rfl (pc' := 1) rfl ?_
  refine own_getF X hx hby hZ hown (host := "") (Or.inl (own_w hw 130 rfl)) Via.refl eT P_size d_86_2__1 (pc' := 4) rfl ?_
  intro T1 X1 e1
  refine own_aloadN X1 hx hby d_86_2__4 rfl rfl (pc' := 5) rfl ?_
  refine own_getF X1 hx hby hZ hown (host := "") (Or.inl (own_w hw 91 rfl)) Via.refl e1 P_markings d_86_2__5 (pc' := 8) rfl ?_
  intro T2 X2 e2
  refine own_alen X2 hx hby hZ e2 (n := (16 : Int32)) Vs rfl d_86_2__8 (pc' := 9) rfl ?_
  refine own_icmpY X2 hx hby d_86_2__9 (feq (by decide)).2 (by decide) (pc' := 16) (by decide) ?_
  refine own_aloadN X2 hx hby d_86_2__16 rfl rfl (pc' := 17) rfl ?_
  refine own_aloadN X2 hx hby d_86_2__17 rfl rfl (pc' := 18) rfl ?_
  refine own_callP X2 hx hby hZ (by exact hml) hown (own_w hw 132 rfl) (own_w hw 134 rfl) (own_selfsel (z := ({ cls := "com/example/tracemass/tracemass/qstates/SilentPath", name := "add", desc := "(Lcom/example/tracemass/tracemass/nets/Marking;)V" } : Jvm.MethodName)) (own_w hw 133 rfl) (own_w hw 134 rfl) rfl (own_w hw 128 rfl) (by decide)) (own_w hw 133 rfl) (own_w hw 84 rfl) (own_w hw 135 rfl) (by decide) e2 0 (by decide) (by decide) (by decide) (by decide) (argsL := [(.ref mk)]) (rest := []) (lenOf pd__Lcom_example_tracemass_tracemass_nets_Marking__J rfl) rfl (Nat.le_of_eq rfl) E (rmCT l Z a0 hw a cp mk ct mv mc vs x y h0 P_compared Vp Em Fm Fc Fk Vm hf) d_86_2__18 (pc' := 21) rfl ?_
  intro v3 T3 L3 X3 hQ3
  obtain ⟨rfl, rfl, e3⟩ := hQ3
  rw [List.append_nil] at X3
  replace e3 : T3.heap = h0 := e3
  show GoP p e below Φ (T3.setTop (mkF m 21 #[.val (.ref a), .val (.ref mk), .unset, .unset, .unset, .unset] [(.long (own_tot x y))]))
  refine own_lstoreN X3 hx hby d_86_2__21  (Ls' := #[.val (.ref a), .val (.ref mk), .val (.long (own_tot x y)), .second, .unset, .unset]) rfl (pc' := 22) rfl ?_
  refine own_aloadN X3 hx hby d_86_2__22 rfl rfl (pc' := 23) rfl ?_
  refine own_getF X3 hx hby hZ hown (host := "") (Or.inl (own_w hw 98 rfl)) Via.refl e3 P_fewestTotal d_86_2__23 (pc' := 26) rfl ?_
  intro T4 X4 e4
  refine own_aloadN X4 hx hby d_86_2__26 rfl rfl (pc' := 27) rfl ?_
  refine own_getF X4 hx hby hZ hown (host := "") (Or.inl (own_w hw 130 rfl)) Via.refl e4 P_size d_86_2__27 (pc' := 30) rfl ?_
  intro T5 X5 e5
  refine own_aloadN X5 hx hby d_86_2__30 rfl rfl (pc' := 31) rfl ?_
  refine own_getF X5 hx hby hZ hown (host := "") (Or.inl (own_w hw 130 rfl)) Via.refl e5 P_size d_86_2__31 (pc' := 34) rfl ?_
  intro T6 X6 e6
  refine own_ifY X6 hx hby d_86_2__34 ((if0 _ _).trans (feq (by decide)).2) (by decide) (pc' := 41) (by decide) ?_
  refine own_aloadN X6 hx hby d_86_2__41 rfl rfl (pc' := 42) rfl ?_
  refine own_getF X6 hx hby hZ hown (host := "") (Or.inl (own_w hw 98 rfl)) Via.refl e6 P_fewestTotal d_86_2__42 (pc' := 45) rfl ?_
  intro T7 X7 e7
  refine own_aloadN X7 hx hby d_86_2__45 rfl rfl (pc' := 46) rfl ?_
  refine own_getF X7 hx hby hZ hown (host := "") (Or.inl (own_w hw 130 rfl)) Via.refl e7 P_size d_86_2__46 (pc' := 49) rfl ?_
  intro T8 X8 e8
  refine own_iconst X8 hx hby d_86_2__49 (v := (1 : Int32)) rfl (pc' := 50) rfl ?_
  refine own_isub X8 hx hby d_86_2__50 (pc' := 51) rfl ?_
  show GoP p e below Φ (T8.setTop (mkF m 51 #[.val (.ref a), .val (.ref mk), .val (.long (own_tot x y)), .second, .unset, .unset] [(.int (0 : Int32)), (.ref ft), (.int (1 : Int32)), (.ref ft)]))
  refine own_laload X8 hx hby hZ e8 Vt (by decide) (v := (.long t0)) rfl d_86_2__51 (pc' := 52) rfl ?_
  refine own_lloadN X8 hx hby d_86_2__52 rfl (pc' := 53) rfl ?_
  refine own_callS X8 hx hby hZ (by exact hml) hown (own_w hw 152 rfl) (own_w hw 153 rfl) (own_w hw 117 rfl) (own_w hw 154 rfl) (by decide) e8 2 (by decide) (by decide) (by decide) (by decide) (argsL := [(.long t0), (.long (own_tot x y))]) (rest := [(.int (1 : Int32)), (.ref ft)]) (lenOf pd__JJ_J rfl) rfl (rmMJ l Z a0 hw t0 (own_tot x y) h0) (Nat.le_of_eq rfl) d_86_2__53 (pc' := 56) rfl ?_
  intro v9 T9 L9 X9 hQ9
  obtain ⟨r9, rfl, rfl, e9⟩ := hQ9
  rw [List.append_nil] at X9
  replace e9 : T9.heap = h0 := e9
  show GoP p e below Φ (T9.setTop (mkF m 56 #[.val (.ref a), .val (.ref mk), .val (.long (own_tot x y)), .second, .unset, .unset] [(.long r9), (.int (1 : Int32)), (.ref ft)]))
  refine own_lastore X9 hx hby hZ e9 Vt (by decide) (Nat.le_of_ble_eq_true rfl) d_86_2__56 (pc' := 57) rfl ?_
  intro T10 h10 X10 e10 W10 V10
  replace V10 : AV Z h10 ft .long [(.long t0), (.long r9), (.long (0 : Int64)), (.long (0 : Int64)), (.long (0 : Int64)), (.long (0 : Int64)), (.long (0 : Int64)), (.long (0 : Int64)), (.long (0 : Int64)), (.long (0 : Int64)), (.long (0 : Int64)), (.long (0 : Int64)), (.long (0 : Int64)), (.long (0 : Int64)), (.long (0 : Int64)), (.long (0 : Int64))] := V10
  have nt11 : a ≠ ft := own_ne_av E (own_w hw 83 rfl) Vt
  have nt12 : mks ≠ ft := own_ne_av2 Vs Vt (by decide)
  have E13_a := E.wr W10
  have F14_markings := P_markings.other W10 (Or.inl nt11)
  have F15_fewestTotal := P_fewestTotal.other W10 (Or.inl nt11)
  have F16_held := P_held.other W10 (Or.inl nt11)
  have F17_other := P_other.other W10 (Or.inl nt11)
  have F18_comparedCount := P_comparedCount.other W10 (Or.inl nt11)
  have F19_compared := P_compared.other W10 (Or.inl nt11)
  have F20_size := P_size.other W10 (Or.inl nt11)
  have V21_mks := Vs.other W10 nt12
  have Y22_mks := Ys.wr W10
  have E24_mk := Em.wr W10
  have N10 := Fr.snoc X10 N0 n0_ft
  have K10 : Keep h0 h10 [a, ft, mks] := K0.wr W10 (Or.inl (List.mem_of_getElem? (i := 1) rfl))
  refine own_aloadN X10 hx hby d_86_2__57 rfl rfl (pc' := 58) rfl ?_
  refine own_getF X10 hx hby hZ hown (host := "") (Or.inl (own_w hw 91 rfl)) Via.refl e10 F14_markings d_86_2__58 (pc' := 61) rfl ?_
  intro T25 X25 e25
  refine own_aloadN X25 hx hby d_86_2__61 rfl rfl (pc' := 62) rfl ?_
  refine own_dup X25 hx hby d_86_2__62 rfl (pc' := 63) rfl ?_
  refine own_getF X25 hx hby hZ hown (host := "") (Or.inl (own_w hw 130 rfl)) Via.refl e25 F20_size d_86_2__63 (pc' := 66) rfl ?_
  intro T26 X26 e26
  refine own_dup_x1 X26 hx hby d_86_2__66 rfl rfl (pc' := 67) rfl ?_
  refine own_iconst X26 hx hby d_86_2__67 (v := (1 : Int32)) rfl (pc' := 68) rfl ?_
  refine own_iadd X26 hx hby d_86_2__68 (pc' := 69) rfl ?_
  show GoP p e below Φ (T26.setTop (mkF m 69 #[.val (.ref a), .val (.ref mk), .val (.long (own_tot x y)), .second, .unset, .unset] [(.int (2 : Int32)), (.ref a), (.int (1 : Int32)), (.ref mks)]))
  refine own_putF X26 hx hby hZ hown (host := "") (Or.inl (own_w hw 130 rfl)) Via.refl e26 F20_size E13_a (Or.inl (own_w hw 131 rfl)) (own_w hw 83 rfl) (ty := .int) (by decide) rfl rfl d_86_2__69 (pc' := 72) rfl ?_
  intro T27 h27 X27 e27 W27
  have nt28 : mks ≠ a := (own_ne_av E13_a (own_w hw 83 rfl) V21_mks).symm
  have E29_a := E13_a.wr W27
  have F30_markings := F14_markings.other W27 (Or.inr (slot_ne (Or.inl (own_w hw 92 rfl)) (Or.inl (own_w hw 131 rfl)) (by decide) (t := (.array (.object "com/example/tracemass/tracemass/nets/Marking"))) (t' := .int) (by decide) (by decide)))
  have F31_fewestTotal := F15_fewestTotal.other W27 (Or.inr (slot_ne (Or.inl (own_w hw 99 rfl)) (Or.inl (own_w hw 131 rfl)) (by decide) (t := (.array .long)) (t' := .int) (by decide) (by decide)))
  have F32_held := F16_held.other W27 (Or.inr (slot_ne (Or.inr (own_w hw 110 rfl)) (Or.inl (own_w hw 131 rfl)) (by decide) (t := (.object "com/example/tracemass/tracemass/qstates/SilentPath$Pairs")) (t' := .int) (by decide) (by decide)))
  have F33_other := F17_other.other W27 (Or.inr (slot_ne (Or.inr (own_w hw 112 rfl)) (Or.inl (own_w hw 131 rfl)) (by decide) (t := (.object "com/example/tracemass/tracemass/qstates/SilentPath$Pairs")) (t' := .int) (by decide) (by decide)))
  have F34_comparedCount := F18_comparedCount.other W27 (Or.inr (slot_ne (Or.inr (own_w hw 114 rfl)) (Or.inl (own_w hw 131 rfl)) (by decide) (t := .int) (t' := .int) (by decide) (by decide)))
  have F35_compared := F19_compared.other W27 (Or.inr (slot_ne (Or.inr (own_w hw 121 rfl)) (Or.inl (own_w hw 131 rfl)) (by decide) (t := (.array .boolean)) (t' := .int) (by decide) (by decide)))
  have F36_size := F20_size.same W27
  have V37_mks := V21_mks.other W27 nt28
  have Y38_mks := Y22_mks.wr W27
  have V39_ft := V10.other W27 (Ne.symm nt11)
  have E40_mk := E24_mk.wr W27
  have N27 := Fr.snoc X27 N10 n0_a
  have K27 : Keep h0 h27 [a, ft, mks] := K10.wr W27 (Or.inl (List.mem_of_getElem? (i := 0) rfl))
  refine own_aloadN X27 hx hby d_86_2__72 rfl rfl (pc' := 73) rfl ?_
  refine own_aastore X27 hx hby hZ e27 V37_mks rfl (own_sto V37_mks Y38_mks (Ins.self E40_mk)) (by decide) (Nat.le_of_ble_eq_true rfl) d_86_2__73 (pc' := 74) rfl ?_
  intro T41 h41 X41 e41 W41 V41
  replace V41 : AV Z h41 mks (.object "com/example/tracemass/tracemass/nets/Marking") [(.ref m0), (.ref mk), .null, .null, .null, .null, .null, .null, .null, .null, .null, .null, .null, .null, .null, .null] := V41
  have E42_a := E29_a.wr W41
  have F43_markings := F30_markings.other W41 (Or.inl (Ne.symm nt28))
  have F44_fewestTotal := F31_fewestTotal.other W41 (Or.inl (Ne.symm nt28))
  have F45_held := F32_held.other W41 (Or.inl (Ne.symm nt28))
  have F46_other := F33_other.other W41 (Or.inl (Ne.symm nt28))
  have F47_comparedCount := F34_comparedCount.other W41 (Or.inl (Ne.symm nt28))
  have F48_compared := F35_compared.other W41 (Or.inl (Ne.symm nt28))
  have F49_size := F36_size.other W41 (Or.inl (Ne.symm nt28))
  have Y51_mks := Y38_mks.wr W41
  have V52_ft := V39_ft.other W41 (Ne.symm nt12)
  have E53_mk := E40_mk.wr W41
  have N41 := Fr.snoc X41 N27 n0_mks
  have K41 : Keep h0 h41 [a, ft, mks] := K27.wr W41 (Or.inl (List.mem_of_getElem? (i := 2) rfl))
  refine own_iconst X41 hx hby d_86_2__74 (v := (4 : Int32)) rfl (pc' := 75) rfl ?_
  refine own_istore X41 hx hby d_86_2__75  (Ls' := #[.val (.ref a), .val (.ref mk), .val (.long (own_tot x y)), .second, .val (.int (4 : Int32)), .unset]) rfl (pc' := 77) rfl ?_
  refine own_aloadN X41 hx hby d_86_2__77 rfl rfl (pc' := 78) rfl ?_
  refine own_getF X41 hx hby hZ hown (host := "") (Or.inl (own_w hw 130 rfl)) Via.refl e41 F49_size d_86_2__78 (pc' := 81) rfl ?_
  intro T54 X54 e54
  refine own_iconst X54 hx hby d_86_2__81 (v := (1 : Int32)) rfl (pc' := 82) rfl ?_
  refine own_iload X54 hx hby d_86_2__82 rfl (pc' := 84) rfl ?_
  refine own_ishl X54 hx hby d_86_2__84 (pc' := 85) rfl ?_
  show GoP p e below Φ (T54.setTop (mkF m 85 #[.val (.ref a), .val (.ref mk), .val (.long (own_tot x y)), .second, .val (.int (4 : Int32)), .unset] [(.int (16 : Int32)), (.int (2 : Int32))]))
  refine own_irem X54 hx hby d_86_2__85 (by decide) (pc' := 86) rfl ?_
  refine own_ifY X54 hx hby d_86_2__86 ((if0 _ _).trans (feq (by decide)).2) (by decide) (pc' := 186) (by decide) ?_
  exact own_ret0 X54 hx hby fin hret d_86_2__186 (by decide) (by decide) (by rw [e54]; exact ⟨r9, rfl, N41, K41, F43_markings, F44_fewestTotal, F45_held, F46_other, F47_comparedCount, F48_compared, F49_size, V41, V52_ft⟩)
theorem ef_rmRl2 (m : MethodId) (x0 : Addr) : entryFrame m #[(.ref x0)] 1 = mkF m 0 #[.val (.ref x0)] [] := by first | (simp [entryFrame, mkF, argsToLocals, Value.category]; done) | rfl
theorem d_86_3__0 : decode prog_86_method_3_code 0 = .ok (.aload_n 0, 1) := by decide +kernel
theorem d_86_3__1 : decode prog_86_method_3_code 1 = .ok (.getfield 11, 3) := by decide +kernel
theorem d_86_3__4 : decode prog_86_method_3_code 4 = .ok (.aload_n 0, 1) := by decide +kernel
theorem d_86_3__5 : decode prog_86_method_3_code 5 = .ok (.dup, 1) := by decide +kernel
theorem d_86_3__6 : decode prog_86_method_3_code 6 = .ok (.getfield 51, 3) := by decide +kernel
theorem d_86_3__9 : decode prog_86_method_3_code 9 = .ok (.iconst 1, 1) := by decide +kernel
theorem d_86_3__10 : decode prog_86_method_3_code 10 = .ok (.isub, 1) := by decide +kernel
theorem d_86_3__11 : decode prog_86_method_3_code 11 = .ok (.dup_x1, 1) := by decide +kernel
theorem d_86_3__12 : decode prog_86_method_3_code 12 = .ok (.putfield 51, 3) := by decide +kernel
theorem d_86_3__15 : decode prog_86_method_3_code 15 = .ok (.aconst_null, 1) := by decide +kernel
theorem d_86_3__16 : decode prog_86_method_3_code 16 = .ok (.aastore, 1) := by decide +kernel
theorem d_86_3__17 : decode prog_86_method_3_code 17 = .ok (.return_, 1) := by decide +kernel
set_option maxRecDepth 65536 in
set_option maxHeartbeats 40000000 in
theorem rmRl2 (l : Launch) (Z : State) (a0 : Array Value) (hw : ∀ d ∈ tables_1, d.before a0 Z = true) (a mks ft hl ot cp m0 m1 : Addr) (n0 : Nat) (h0 : Heap) (n0_a : n0 ≤ a) (n0_mks : n0 ≤ mks) (E : Exa Z h0 a "com/example/tracemass/tracemass/qstates/SilentPath") (P_markings : Fld Z h0 a "com/example/tracemass/tracemass/qstates/SilentPath" "markings" "[Lcom/example/tracemass/tracemass/nets/Marking;" (.ref mks)) (P_fewestTotal : Fld Z h0 a "com/example/tracemass/tracemass/qstates/SilentPath" "fewestTotal" "[J" (.ref ft)) (P_held : Fld Z h0 a "com/example/tracemass/tracemass/qstates/SilentPath" "held" "Lcom/example/tracemass/tracemass/qstates/SilentPath$Pairs;" (.ref hl)) (P_other : Fld Z h0 a "com/example/tracemass/tracemass/qstates/SilentPath" "other" "Lcom/example/tracemass/tracemass/qstates/SilentPath$Pairs;" (.ref ot)) (P_comparedCount : Fld Z h0 a "com/example/tracemass/tracemass/qstates/SilentPath" "comparedCount" "I" (.int (2 : Int32))) (P_compared : Fld Z h0 a "com/example/tracemass/tracemass/qstates/SilentPath" "compared" "[Z" (.ref cp)) (P_size : Fld Z h0 a "com/example/tracemass/tracemass/qstates/SilentPath" "size" "I" (.int (2 : Int32))) (Vs : AV Z h0 mks (.object "com/example/tracemass/tracemass/nets/Marking") [(.ref m0), (.ref m1), .null, .null, .null, .null, .null, .null, .null, .null, .null, .null, .null, .null, .null, .null]) : Con l Z (⟨"com/example/tracemass/tracemass/qstates/SilentPath", "removeLast", "()V"⟩ : MethodName) prog_86_method_3_code 1 none [] ({ frames := 0, cells := 0, slots := 0, locals := 0 } : Room) #[(.ref a)] h0 (fun v h L => v = none ∧ Fr n0 L ∧ Keep h0 h [a, mks] ∧ Fld Z h a "com/example/tracemass/tracemass/qstates/SilentPath" "markings" "[Lcom/example/tracemass/tracemass/nets/Marking;" (.ref mks) ∧ Fld Z h a "com/example/tracemass/tracemass/qstates/SilentPath" "fewestTotal" "[J" (.ref ft) ∧ Fld Z h a "com/example/tracemass/tracemass/qstates/SilentPath" "held" "Lcom/example/tracemass/tracemass/qstates/SilentPath$Pairs;" (.ref hl) ∧ Fld Z h a "com/example/tracemass/tracemass/qstates/SilentPath" "other" "Lcom/example/tracemass/tracemass/qstates/SilentPath$Pairs;" (.ref ot) ∧ Fld Z h a "com/example/tracemass/tracemass/qstates/SilentPath" "comparedCount" "I" (.int (2 : Int32)) ∧ Fld Z h a "com/example/tracemass/tracemass/qstates/SilentPath" "compared" "[Z" (.ref cp) ∧ Fld Z h a "com/example/tracemass/tracemass/qstates/SilentPath" "size" "I" (.int (1 : Int32)) ∧ AV Z h mks (.object "com/example/tracemass/tracemass/nets/Marking") [(.ref m0), .null, .null, .null, .null, .null, .null, .null, .null, .null, .null, .null, .null, .null, .null, .null]) := by
  refine Con.of (plainFor_of_name pn_com_example_tracemass_tracemass_qstates_SilentPath) ?_
  intro p e s m below meth c T X hx hby hml hown hnm hret eT hZ hsh Φ fin
  replace hown : s.vm.findClass "com/example/tracemass/tracemass/qstates/SilentPath" = some m.cls := hown
  replace hml : 1 = c.maxLocals := hml.symm
  refine own_step (fun tq kq => castTop (ef_rmRl2 m a) kq) ?_
  have N0 := Fr.nil n0
  have K0 : Keep h0 h0 [a, mks] := Keep.refl h0 [a, mks]
  refine own_aloadN X hx hby d_86_3__0 rfl rfl (pc' := 1) rfl ?_
  refine own_getF X hx hby hZ hown (host := "") (Or.inl (own_w hw 91 rfl)) Via.refl eT P_markings d_86_3__1 (pc' := 4) rfl ?_
  intro T1 X1 e1
  refine own_aloadN X1 hx hby d_86_3__4 rfl rfl (pc' := 5) rfl ?_
  refine own_dup X1 hx hby d_86_3__5 rfl (pc' := 6) rfl ?_
  refine own_getF X1 hx hby hZ hown (host := "") (Or.inl (own_w hw 130 rfl)) Via.refl e1 P_size d_86_3__6 (pc' := 9) rfl ?_
  intro T2 X2 e2
  refine own_iconst X2 hx hby d_86_3__9 (v := (1 : Int32)) rfl (pc' := 10) rfl ?_
  refine own_isub X2 hx hby d_86_3__10 (pc' := 11) rfl ?_
  show GoP p e below Φ (T2.setTop (mkF m 11 #[.val (.ref a)] [(.int (1 : Int32)), (.ref a), (.ref mks)]))
  refine own_dup_x1 X2 hx hby d_86_3__11 rfl rfl (pc' := 12) rfl ?_
  refine own_putF X2 hx hby hZ hown (host := "") (Or.inl (own_w hw 130 rfl)) Via.refl e2 P_size E (Or.inl (own_w hw 131 rfl)) (own_w hw 83 rfl) (ty := .int) (by decide) rfl rfl d_86_3__12 (pc' := 15) rfl ?_
  intro T3 h3 X3 e3 W3
  have nt4 : mks ≠ a := (own_ne_av E (own_w hw 83 rfl) Vs).symm
  have E5_a := E.wr W3
  have F6_markings := P_markings.other W3 (Or.inr (slot_ne (Or.inl (own_w hw 92 rfl)) (Or.inl (own_w hw 131 rfl)) (by decide) (t := (.array (.object "com/example/tracemass/tracemass/nets/Marking"))) (t' := .int) (by decide) (by decide)))
  have F7_fewestTotal := P_fewestTotal.other W3 (Or.inr (slot_ne (Or.inl (own_w hw 99 rfl)) (Or.inl (own_w hw 131 rfl)) (by decide) (t := (.array .long)) (t' := .int) (by decide) (by decide)))
  have F8_held := P_held.other W3 (Or.inr (slot_ne (Or.inr (own_w hw 110 rfl)) (Or.inl (own_w hw 131 rfl)) (by decide) (t := (.object "com/example/tracemass/tracemass/qstates/SilentPath$Pairs")) (t' := .int) (by decide) (by decide)))
  have F9_other := P_other.other W3 (Or.inr (slot_ne (Or.inr (own_w hw 112 rfl)) (Or.inl (own_w hw 131 rfl)) (by decide) (t := (.object "com/example/tracemass/tracemass/qstates/SilentPath$Pairs")) (t' := .int) (by decide) (by decide)))
  have F10_comparedCount := P_comparedCount.other W3 (Or.inr (slot_ne (Or.inr (own_w hw 114 rfl)) (Or.inl (own_w hw 131 rfl)) (by decide) (t := .int) (t' := .int) (by decide) (by decide)))
  have F11_compared := P_compared.other W3 (Or.inr (slot_ne (Or.inr (own_w hw 121 rfl)) (Or.inl (own_w hw 131 rfl)) (by decide) (t := (.array .boolean)) (t' := .int) (by decide) (by decide)))
  have F12_size := P_size.same W3
  have V13_mks := Vs.other W3 nt4
  have N3 := Fr.snoc X3 N0 n0_a
  have K3 : Keep h0 h3 [a, mks] := K0.wr W3 (Or.inl (List.mem_of_getElem? (i := 0) rfl))
  refine own_aconst_null X3 hx hby d_86_3__15 (pc' := 16) rfl ?_
  refine own_aastore X3 hx hby hZ e3 V13_mks rfl (Or.inl rfl) (by decide) (Nat.le_of_ble_eq_true rfl) d_86_3__16 (pc' := 17) rfl ?_
  intro T14 h14 X14 e14 W14 V14
  replace V14 : AV Z h14 mks (.object "com/example/tracemass/tracemass/nets/Marking") [(.ref m0), .null, .null, .null, .null, .null, .null, .null, .null, .null, .null, .null, .null, .null, .null, .null] := V14
  have E15_a := E5_a.wr W14
  have F16_markings := F6_markings.other W14 (Or.inl (Ne.symm nt4))
  have F17_fewestTotal := F7_fewestTotal.other W14 (Or.inl (Ne.symm nt4))
  have F18_held := F8_held.other W14 (Or.inl (Ne.symm nt4))
  have F19_other := F9_other.other W14 (Or.inl (Ne.symm nt4))
  have F20_comparedCount := F10_comparedCount.other W14 (Or.inl (Ne.symm nt4))
  have F21_compared := F11_compared.other W14 (Or.inl (Ne.symm nt4))
  have F22_size := F12_size.other W14 (Or.inl (Ne.symm nt4))
  have N14 := Fr.snoc X14 N3 n0_mks
  have K14 : Keep h0 h14 [a, mks] := K3.wr W14 (Or.inl (List.mem_of_getElem? (i := 1) rfl))
  exact own_ret0 X14 hx hby fin hret d_86_3__17 (by decide) (by decide) (by rw [e14]; exact ⟨rfl, N14, K14, F16_markings, F17_fewestTotal, F18_held, F19_other, F20_comparedCount, F21_compared, F22_size, V14⟩)
theorem ef_rmRl1 (m : MethodId) (x0 : Addr) : entryFrame m #[(.ref x0)] 1 = mkF m 0 #[.val (.ref x0)] [] := by first | (simp [entryFrame, mkF, argsToLocals, Value.category]; done) | rfl
set_option maxRecDepth 65536 in
set_option maxHeartbeats 40000000 in
theorem rmRl1 (l : Launch) (Z : State) (a0 : Array Value) (hw : ∀ d ∈ tables_1, d.before a0 Z = true) (a mks ft hl ot cp m0 : Addr) (n0 : Nat) (h0 : Heap) (n0_a : n0 ≤ a) (n0_mks : n0 ≤ mks) (E : Exa Z h0 a "com/example/tracemass/tracemass/qstates/SilentPath") (P_markings : Fld Z h0 a "com/example/tracemass/tracemass/qstates/SilentPath" "markings" "[Lcom/example/tracemass/tracemass/nets/Marking;" (.ref mks)) (P_fewestTotal : Fld Z h0 a "com/example/tracemass/tracemass/qstates/SilentPath" "fewestTotal" "[J" (.ref ft)) (P_held : Fld Z h0 a "com/example/tracemass/tracemass/qstates/SilentPath" "held" "Lcom/example/tracemass/tracemass/qstates/SilentPath$Pairs;" (.ref hl)) (P_other : Fld Z h0 a "com/example/tracemass/tracemass/qstates/SilentPath" "other" "Lcom/example/tracemass/tracemass/qstates/SilentPath$Pairs;" (.ref ot)) (P_comparedCount : Fld Z h0 a "com/example/tracemass/tracemass/qstates/SilentPath" "comparedCount" "I" (.int (2 : Int32))) (P_compared : Fld Z h0 a "com/example/tracemass/tracemass/qstates/SilentPath" "compared" "[Z" (.ref cp)) (P_size : Fld Z h0 a "com/example/tracemass/tracemass/qstates/SilentPath" "size" "I" (.int (1 : Int32))) (Vs : AV Z h0 mks (.object "com/example/tracemass/tracemass/nets/Marking") [(.ref m0), .null, .null, .null, .null, .null, .null, .null, .null, .null, .null, .null, .null, .null, .null, .null]) : Con l Z (⟨"com/example/tracemass/tracemass/qstates/SilentPath", "removeLast", "()V"⟩ : MethodName) prog_86_method_3_code 1 none [] ({ frames := 0, cells := 0, slots := 0, locals := 0 } : Room) #[(.ref a)] h0 (fun v h L => v = none ∧ Fr n0 L ∧ Keep h0 h [a, mks] ∧ Fld Z h a "com/example/tracemass/tracemass/qstates/SilentPath" "markings" "[Lcom/example/tracemass/tracemass/nets/Marking;" (.ref mks) ∧ Fld Z h a "com/example/tracemass/tracemass/qstates/SilentPath" "fewestTotal" "[J" (.ref ft) ∧ Fld Z h a "com/example/tracemass/tracemass/qstates/SilentPath" "held" "Lcom/example/tracemass/tracemass/qstates/SilentPath$Pairs;" (.ref hl) ∧ Fld Z h a "com/example/tracemass/tracemass/qstates/SilentPath" "other" "Lcom/example/tracemass/tracemass/qstates/SilentPath$Pairs;" (.ref ot) ∧ Fld Z h a "com/example/tracemass/tracemass/qstates/SilentPath" "comparedCount" "I" (.int (2 : Int32)) ∧ Fld Z h a "com/example/tracemass/tracemass/qstates/SilentPath" "compared" "[Z" (.ref cp) ∧ Fld Z h a "com/example/tracemass/tracemass/qstates/SilentPath" "size" "I" (.int (0 : Int32)) ∧ AV Z h mks (.object "com/example/tracemass/tracemass/nets/Marking") [.null, .null, .null, .null, .null, .null, .null, .null, .null, .null, .null, .null, .null, .null, .null, .null]) := by
  refine Con.of (plainFor_of_name pn_com_example_tracemass_tracemass_qstates_SilentPath) ?_
  intro p e s m below meth c T X hx hby hml hown hnm hret eT hZ hsh Φ fin
  replace hown : s.vm.findClass "com/example/tracemass/tracemass/qstates/SilentPath" = some m.cls := hown
  replace hml : 1 = c.maxLocals := hml.symm
  refine own_step (fun tq kq => castTop (ef_rmRl1 m a) kq) ?_
  have N0 := Fr.nil n0
  have K0 : Keep h0 h0 [a, mks] := Keep.refl h0 [a, mks]
  refine own_aloadN X hx hby d_86_3__0 rfl rfl (pc' := 1) rfl ?_
  refine own_getF X hx hby hZ hown (host := "") (Or.inl (own_w hw 91 rfl)) Via.refl eT P_markings d_86_3__1 (pc' := 4) rfl ?_
  intro T1 X1 e1
  refine own_aloadN X1 hx hby d_86_3__4 rfl rfl (pc' := 5) rfl ?_
  refine own_dup X1 hx hby d_86_3__5 rfl (pc' := 6) rfl ?_
  refine own_getF X1 hx hby hZ hown (host := "") (Or.inl (own_w hw 130 rfl)) Via.refl e1 P_size d_86_3__6 (pc' := 9) rfl ?_
  intro T2 X2 e2
  refine own_iconst X2 hx hby d_86_3__9 (v := (1 : Int32)) rfl (pc' := 10) rfl ?_
  refine own_isub X2 hx hby d_86_3__10 (pc' := 11) rfl ?_
  show GoP p e below Φ (T2.setTop (mkF m 11 #[.val (.ref a)] [(.int (0 : Int32)), (.ref a), (.ref mks)]))
  refine own_dup_x1 X2 hx hby d_86_3__11 rfl rfl (pc' := 12) rfl ?_
  refine own_putF X2 hx hby hZ hown (host := "") (Or.inl (own_w hw 130 rfl)) Via.refl e2 P_size E (Or.inl (own_w hw 131 rfl)) (own_w hw 83 rfl) (ty := .int) (by decide) rfl rfl d_86_3__12 (pc' := 15) rfl ?_
  intro T3 h3 X3 e3 W3
  have nt4 : mks ≠ a := (own_ne_av E (own_w hw 83 rfl) Vs).symm
  have E5_a := E.wr W3
  have F6_markings := P_markings.other W3 (Or.inr (slot_ne (Or.inl (own_w hw 92 rfl)) (Or.inl (own_w hw 131 rfl)) (by decide) (t := (.array (.object "com/example/tracemass/tracemass/nets/Marking"))) (t' := .int) (by decide) (by decide)))
  have F7_fewestTotal := P_fewestTotal.other W3 (Or.inr (slot_ne (Or.inl (own_w hw 99 rfl)) (Or.inl (own_w hw 131 rfl)) (by decide) (t := (.array .long)) (t' := .int) (by decide) (by decide)))
  have F8_held := P_held.other W3 (Or.inr (slot_ne (Or.inr (own_w hw 110 rfl)) (Or.inl (own_w hw 131 rfl)) (by decide) (t := (.object "com/example/tracemass/tracemass/qstates/SilentPath$Pairs")) (t' := .int) (by decide) (by decide)))
  have F9_other := P_other.other W3 (Or.inr (slot_ne (Or.inr (own_w hw 112 rfl)) (Or.inl (own_w hw 131 rfl)) (by decide) (t := (.object "com/example/tracemass/tracemass/qstates/SilentPath$Pairs")) (t' := .int) (by decide) (by decide)))
  have F10_comparedCount := P_comparedCount.other W3 (Or.inr (slot_ne (Or.inr (own_w hw 114 rfl)) (Or.inl (own_w hw 131 rfl)) (by decide) (t := .int) (t' := .int) (by decide) (by decide)))
  have F11_compared := P_compared.other W3 (Or.inr (slot_ne (Or.inr (own_w hw 121 rfl)) (Or.inl (own_w hw 131 rfl)) (by decide) (t := (.array .boolean)) (t' := .int) (by decide) (by decide)))
  have F12_size := P_size.same W3
  have V13_mks := Vs.other W3 nt4
  have N3 := Fr.snoc X3 N0 n0_a
  have K3 : Keep h0 h3 [a, mks] := K0.wr W3 (Or.inl (List.mem_of_getElem? (i := 0) rfl))
  refine own_aconst_null X3 hx hby d_86_3__15 (pc' := 16) rfl ?_
  refine own_aastore X3 hx hby hZ e3 V13_mks rfl (Or.inl rfl) (by decide) (Nat.le_of_ble_eq_true rfl) d_86_3__16 (pc' := 17) rfl ?_
  intro T14 h14 X14 e14 W14 V14
  replace V14 : AV Z h14 mks (.object "com/example/tracemass/tracemass/nets/Marking") [.null, .null, .null, .null, .null, .null, .null, .null, .null, .null, .null, .null, .null, .null, .null, .null] := V14
  have E15_a := E5_a.wr W14
  have F16_markings := F6_markings.other W14 (Or.inl (Ne.symm nt4))
  have F17_fewestTotal := F7_fewestTotal.other W14 (Or.inl (Ne.symm nt4))
  have F18_held := F8_held.other W14 (Or.inl (Ne.symm nt4))
  have F19_other := F9_other.other W14 (Or.inl (Ne.symm nt4))
  have F20_comparedCount := F10_comparedCount.other W14 (Or.inl (Ne.symm nt4))
  have F21_compared := F11_compared.other W14 (Or.inl (Ne.symm nt4))
  have F22_size := F12_size.other W14 (Or.inl (Ne.symm nt4))
  have N14 := Fr.snoc X14 N3 n0_mks
  have K14 : Keep h0 h14 [a, mks] := K3.wr W14 (Or.inl (List.mem_of_getElem? (i := 1) rfl))
  exact own_ret0 X14 hx hby fin hret d_86_3__17 (by decide) (by decide) (by rw [e14]; exact ⟨rfl, N14, K14, F16_markings, F17_fewestTotal, F18_held, F19_other, F20_comparedCount, F21_compared, F22_size, V14⟩)
theorem ef_rmL0 (m : MethodId) (x0 : Addr) (x1 : Addr) (x2 : Addr) : entryFrame m #[(.ref x0), (.ref x1), (.ref x2)] 6 = mkF m 0 #[.val (.ref x0), .val (.ref x1), .val (.ref x2), .unset, .unset, .unset] [] := by first | (simp [entryFrame, mkF, argsToLocals, Value.category]; done) | rfl
theorem d_86_5__0 : decode prog_86_method_5_code 0 = .ok (.aload_n 0, 1) := by decide +kernel
theorem d_86_5__1 : decode prog_86_method_5_code 1 = .ok (.getfield 51, 3) := by decide +kernel
theorem d_86_5__4 : decode prog_86_method_5_code 4 = .ok (.ifCond .eq 23, 3) := by decide +kernel
theorem d_86_5__27 : decode prog_86_method_5_code 27 = .ok (.aconst_null, 1) := by decide +kernel
theorem d_86_5__28 : decode prog_86_method_5_code 28 = .ok (.areturn, 1) := by decide +kernel
set_option maxRecDepth 65536 in
set_option maxHeartbeats 40000000 in
theorem rmL0 (l : Launch) (Z : State) (a0 : Array Value) (hw : ∀ d ∈ tables_1, d.before a0 Z = true) (a q1 wk : Addr) (h0 : Heap) (F : Fld Z h0 a "com/example/tracemass/tracemass/qstates/SilentPath" "size" "I" (.int (0 : Int32))) : Con l Z (⟨"com/example/tracemass/tracemass/qstates/SilentPath", "latestCoveredBy", "(Lcom/example/tracemass/tracemass/nets/Marking;Lcom/example/tracemass/tracemass/numbers/Work;)Lcom/example/tracemass/tracemass/nets/Marking;"⟩ : MethodName) prog_86_method_5_code 6 (some (.object "com/example/tracemass/tracemass/nets/Marking")) [] ({ frames := 0, cells := 0, slots := 0, locals := 0 } : Room) #[(.ref a), (.ref q1), (.ref wk)] h0 (fun v h L => v = some .null ∧ L = [] ∧ h = h0) := by
  refine Con.of (plainFor_of_name pn_com_example_tracemass_tracemass_qstates_SilentPath) ?_
  intro p e s m below meth c T X hx hby hml hown hnm hret eT hZ hsh Φ fin
  replace hown : s.vm.findClass "com/example/tracemass/tracemass/qstates/SilentPath" = some m.cls := hown
  replace hml : 6 = c.maxLocals := hml.symm
  refine own_step (fun tq kq => castTop (ef_rmL0 m a q1 wk) kq) ?_
  refine own_aloadN X hx hby d_86_5__0 rfl rfl (pc' := 1) rfl ?_
  refine own_getF X hx hby hZ hown (host := "") (Or.inl (own_w hw 130 rfl)) Via.refl eT F d_86_5__1 (pc' := 4) rfl ?_
  intro T1 X1 e1
  refine own_ifY X1 hx hby d_86_5__4 ((if0 _ _).trans (teq (by decide)).1) (by decide) (pc' := 27) (by decide) ?_
  refine own_aconst_null X1 hx hby d_86_5__27 (pc' := 28) rfl ?_
  exact own_retA X1 hx hby fin hret rfl rfl rfl d_86_5__28 (by decide) (by decide) ⟨rfl, rfl, e1⟩
theorem ef_rmL1 (m : MethodId) (x0 : Addr) (x1 : Addr) (x2 : Addr) : entryFrame m #[(.ref x0), (.ref x1), (.ref x2)] 6 = mkF m 0 #[.val (.ref x0), .val (.ref x1), .val (.ref x2), .unset, .unset, .unset] [] := by first | (simp [entryFrame, mkF, argsToLocals, Value.category]; done) | rfl
theorem d_86_5__7 : decode prog_86_method_5_code 7 = .ok (.aload_n 0, 1) := by decide +kernel
theorem d_86_5__8 : decode prog_86_method_5_code 8 = .ok (.aload_n 1, 1) := by decide +kernel
theorem d_86_5__9 : decode prog_86_method_5_code 9 = .ok (.invokevirtual 57, 3) := by decide +kernel
theorem d_86_5__12 : decode prog_86_method_5_code 12 = .ok (.aload_n 0, 1) := by decide +kernel
theorem d_86_5__13 : decode prog_86_method_5_code 13 = .ok (.getfield 21, 3) := by decide +kernel
theorem d_86_5__16 : decode prog_86_method_5_code 16 = .ok (.aload_n 0, 1) := by decide +kernel
theorem d_86_5__17 : decode prog_86_method_5_code 17 = .ok (.getfield 51, 3) := by decide +kernel
theorem d_86_5__20 : decode prog_86_method_5_code 20 = .ok (.iconst 1, 1) := by decide +kernel
theorem d_86_5__21 : decode prog_86_method_5_code 21 = .ok (.isub, 1) := by decide +kernel
theorem d_86_5__22 : decode prog_86_method_5_code 22 = .ok (.laload, 1) := by decide +kernel
theorem d_86_5__23 : decode prog_86_method_5_code 23 = .ok (.lcmp, 1) := by decide +kernel
theorem d_86_5__24 : decode prog_86_method_5_code 24 = .ok (.ifCond .gt 5, 3) := by decide +kernel
theorem d_86_5__29 : decode prog_86_method_5_code 29 = .ok (.aload_n 0, 1) := by decide +kernel
theorem d_86_5__30 : decode prog_86_method_5_code 30 = .ok (.getfield 28, 3) := by decide +kernel
theorem d_86_5__33 : decode prog_86_method_5_code 33 = .ok (.aload_n 1, 1) := by decide +kernel
theorem d_86_5__34 : decode prog_86_method_5_code 34 = .ok (.aload_n 0, 1) := by decide +kernel
theorem d_86_5__35 : decode prog_86_method_5_code 35 = .ok (.getfield 45, 3) := by decide +kernel
theorem d_86_5__38 : decode prog_86_method_5_code 38 = .ok (.aload_n 0, 1) := by decide +kernel
theorem d_86_5__39 : decode prog_86_method_5_code 39 = .ok (.getfield 35, 3) := by decide +kernel
theorem d_86_5__42 : decode prog_86_method_5_code 42 = .ok (.invokevirtual 75, 3) := by decide +kernel
theorem pd__Lcom_example_tracemass_tracemass_nets_Marking__ZI_V : parseMethodDescriptor "(Lcom/example/tracemass/tracemass/nets/Marking;[ZI)V" = some ⟨[(.object "com/example/tracemass/tracemass/nets/Marking"), (.array .boolean), .int], none⟩ := by decide +kernel
theorem d_86_5__45 : decode prog_86_method_5_code 45 = .ok (.aload_n 0, 1) := by decide +kernel
theorem d_86_5__46 : decode prog_86_method_5_code 46 = .ok (.getfield 51, 3) := by decide +kernel
theorem d_86_5__49 : decode prog_86_method_5_code 49 = .ok (.istore_n 3, 1) := by decide +kernel
theorem d_86_5__50 : decode prog_86_method_5_code 50 = .ok (.iload_n 3, 1) := by decide +kernel
theorem d_86_5__51 : decode prog_86_method_5_code 51 = .ok (.invokestatic 79, 3) := by decide +kernel
theorem d_86_5__54 : decode prog_86_method_5_code 54 = .ok (.istore 4, 2) := by decide +kernel
theorem d_86_5__56 : decode prog_86_method_5_code 56 = .ok (.iload_n 3, 1) := by decide +kernel
theorem d_86_5__57 : decode prog_86_method_5_code 57 = .ok (.ifCond .le 169, 3) := by decide +kernel
theorem d_86_5__60 : decode prog_86_method_5_code 60 = .ok (.iload 4, 2) := by decide +kernel
theorem d_86_5__62 : decode prog_86_method_5_code 62 = .ok (.iconst 4, 1) := by decide +kernel
theorem d_86_5__63 : decode prog_86_method_5_code 63 = .ok (.if_icmp .ge 92, 3) := by decide +kernel
theorem d_86_5__66 : decode prog_86_method_5_code 66 = .ok (.aload_n 0, 1) := by decide +kernel
theorem d_86_5__67 : decode prog_86_method_5_code 67 = .ok (.getfield 11, 3) := by decide +kernel
theorem d_86_5__70 : decode prog_86_method_5_code 70 = .ok (.iinc 3 (-1), 3) := by decide +kernel
theorem d_86_5__73 : decode prog_86_method_5_code 73 = .ok (.iload_n 3, 1) := by decide +kernel
theorem d_86_5__74 : decode prog_86_method_5_code 74 = .ok (.aaload, 1) := by decide +kernel
theorem d_86_5__75 : decode prog_86_method_5_code 75 = .ok (.astore 5, 2) := by decide +kernel
theorem d_86_5__77 : decode prog_86_method_5_code 77 = .ok (.aload_n 2, 1) := by decide +kernel
theorem d_86_5__78 : decode prog_86_method_5_code 78 = .ok (.iconst 1, 1) := by decide +kernel
theorem d_86_5__79 : decode prog_86_method_5_code 79 = .ok (.aload 5, 2) := by decide +kernel
theorem d_86_5__81 : decode prog_86_method_5_code 81 = .ok (.invokevirtual 85, 3) := by decide +kernel
theorem d_86_5__84 : decode prog_86_method_5_code 84 = .ok (.aload_n 0, 1) := by decide +kernel
theorem d_86_5__85 : decode prog_86_method_5_code 85 = .ok (.getfield 35, 3) := by decide +kernel
theorem d_86_5__88 : decode prog_86_method_5_code 88 = .ok (.invokestatic 89, 3) := by decide +kernel
theorem d_86_5__91 : decode prog_86_method_5_code 91 = .ok (.invokestatic 39, 3) := by decide +kernel
theorem d_86_5__94 : decode prog_86_method_5_code 94 = .ok (.invokevirtual 91, 3) := by decide +kernel
theorem pd__I_Z : parseMethodDescriptor "(I)Z" = some ⟨[.int], some .boolean⟩ := by decide +kernel
theorem d_86_5__97 : decode prog_86_method_5_code 97 = .ok (.ifCond .ne 5, 3) := by decide +kernel
theorem d_86_5__102 : decode prog_86_method_5_code 102 = .ok (.aload_n 0, 1) := by decide +kernel
theorem d_86_5__103 : decode prog_86_method_5_code 103 = .ok (.getfield 32, 3) := by decide +kernel
theorem d_86_5__106 : decode prog_86_method_5_code 106 = .ok (.aload 5, 2) := by decide +kernel
theorem d_86_5__108 : decode prog_86_method_5_code 108 = .ok (.aload_n 0, 1) := by decide +kernel
theorem d_86_5__109 : decode prog_86_method_5_code 109 = .ok (.getfield 45, 3) := by decide +kernel
theorem d_86_5__112 : decode prog_86_method_5_code 112 = .ok (.aload_n 0, 1) := by decide +kernel
theorem d_86_5__113 : decode prog_86_method_5_code 113 = .ok (.getfield 35, 3) := by decide +kernel
theorem d_86_5__116 : decode prog_86_method_5_code 116 = .ok (.invokevirtual 75, 3) := by decide +kernel
theorem d_86_5__119 : decode prog_86_method_5_code 119 = .ok (.aload_n 0, 1) := by decide +kernel
theorem d_86_5__120 : decode prog_86_method_5_code 120 = .ok (.getfield 28, 3) := by decide +kernel
theorem d_86_5__123 : decode prog_86_method_5_code 123 = .ok (.aload_n 0, 1) := by decide +kernel
theorem d_86_5__124 : decode prog_86_method_5_code 124 = .ok (.getfield 32, 3) := by decide +kernel
theorem d_86_5__127 : decode prog_86_method_5_code 127 = .ok (.getfield 97, 3) := by decide +kernel
theorem d_86_5__130 : decode prog_86_method_5_code 130 = .ok (.aload_n 0, 1) := by decide +kernel
theorem d_86_5__131 : decode prog_86_method_5_code 131 = .ok (.getfield 32, 3) := by decide +kernel
theorem d_86_5__134 : decode prog_86_method_5_code 134 = .ok (.getfield 100, 3) := by decide +kernel
theorem d_86_5__137 : decode prog_86_method_5_code 137 = .ok (.invokevirtual 103, 3) := by decide +kernel
theorem pd___II_Z : parseMethodDescriptor "([II)Z" = some ⟨[(.array .int), .int], some .boolean⟩ := by decide +kernel
theorem d_86_5__140 : decode prog_86_method_5_code 140 = .ok (.ifCond .eq 6, 3) := by decide +kernel
theorem d_86_5__146 : decode prog_86_method_5_code 146 = .ok (.iload_n 3, 1) := by decide +kernel
theorem d_86_5__147 : decode prog_86_method_5_code 147 = .ok (.invokestatic 79, 3) := by decide +kernel
theorem d_86_5__150 : decode prog_86_method_5_code 150 = .ok (.istore 4, 2) := by decide +kernel
theorem d_86_5__152 : decode prog_86_method_5_code 152 = .ok (.goto (-96), 3) := by decide +kernel
theorem d_86_5__226 : decode prog_86_method_5_code 226 = .ok (.aconst_null, 1) := by decide +kernel
theorem d_86_5__227 : decode prog_86_method_5_code 227 = .ok (.areturn, 1) := by decide +kernel
theorem d_86_5__143 : decode prog_86_method_5_code 143 = .ok (.aload 5, 2) := by decide +kernel
theorem d_86_5__145 : decode prog_86_method_5_code 145 = .ok (.areturn, 1) := by decide +kernel
set_option maxRecDepth 65536 in
set_option maxHeartbeats 40000000 in
theorem rmL1 (l : Launch) (Z : State) (a0 : Array Value) (hw : ∀ d ∈ tables_1, d.before a0 Z = true) (a mks ft hl ot cp hv ov wk lm ma cta mq ctq : Addr) (mva mvq : Value) (mca mcq : Int32) (vsa vsq : List Value) (x0 x1 z0 z1 : Int32) (rr : Int64) (n0 : Nat) (h0 : Heap) (nz0 : ¬ z0 < (0 : Int32)) (nz1 : ¬ z1 < (0 : Int32)) (n0_hl : n0 ≤ hl) (n0_ot : n0 ≤ ot) (n0_wk : n0 ≤ wk) (Z0 : n0 ≤ h0.size) (ne_hl_ot : hl ≠ ot) (E : Exa Z h0 a "com/example/tracemass/tracemass/qstates/SilentPath") (P_markings : Fld Z h0 a "com/example/tracemass/tracemass/qstates/SilentPath" "markings" "[Lcom/example/tracemass/tracemass/nets/Marking;" (.ref mks)) (P_fewestTotal : Fld Z h0 a "com/example/tracemass/tracemass/qstates/SilentPath" "fewestTotal" "[J" (.ref ft)) (P_held : Fld Z h0 a "com/example/tracemass/tracemass/qstates/SilentPath" "held" "Lcom/example/tracemass/tracemass/qstates/SilentPath$Pairs;" (.ref hl)) (P_other : Fld Z h0 a "com/example/tracemass/tracemass/qstates/SilentPath" "other" "Lcom/example/tracemass/tracemass/qstates/SilentPath$Pairs;" (.ref ot)) (P_comparedCount : Fld Z h0 a "com/example/tracemass/tracemass/qstates/SilentPath" "comparedCount" "I" (.int (2 : Int32))) (P_compared : Fld Z h0 a "com/example/tracemass/tracemass/qstates/SilentPath" "compared" "[Z" (.ref cp)) (P_size : Fld Z h0 a "com/example/tracemass/tracemass/qstates/SilentPath" "size" "I" (.int (1 : Int32))) (Vs : AV Z h0 mks (.object "com/example/tracemass/tracemass/nets/Marking") [(.ref ma), .null, .null, .null, .null, .null, .null, .null, .null, .null, .null, .null, .null, .null, .null, .null]) (Vt : AV Z h0 ft .long [(.long (own_tot x0 x1)), (.long rr), (.long (0 : Int64)), (.long (0 : Int64)), (.long (0 : Int64)), (.long (0 : Int64)), (.long (0 : Int64)), (.long (0 : Int64)), (.long (0 : Int64)), (.long (0 : Int64)), (.long (0 : Int64)), (.long (0 : Int64)), (.long (0 : Int64)), (.long (0 : Int64)), (.long (0 : Int64)), (.long (0 : Int64))]) (Vp : AV Z h0 cp .boolean [.int 1, .int 1]) (Eh : Exa Z h0 hl "com/example/tracemass/tracemass/qstates/SilentPath$Pairs") (F1h : Fld Z h0 hl "com/example/tracemass/tracemass/qstates/SilentPath$Pairs" "values" "[I" (.ref hv)) (F2h : Fld Z h0 hl "com/example/tracemass/tracemass/qstates/SilentPath$Pairs" "length" "I" (.int (0 : Int32))) (Vh : AV Z h0 hv .int []) (Eo : Exa Z h0 ot "com/example/tracemass/tracemass/qstates/SilentPath$Pairs") (F1o : Fld Z h0 ot "com/example/tracemass/tracemass/qstates/SilentPath$Pairs" "values" "[I" (.ref ov)) (F2o : Fld Z h0 ot "com/example/tracemass/tracemass/qstates/SilentPath$Pairs" "length" "I" (.int (0 : Int32))) (Vo : AV Z h0 ov .int []) (Ew : Exa Z h0 wk "com/example/tracemass/tracemass/numbers/Work") (G1 : Fld Z h0 wk "com/example/tracemass/tracemass/numbers/Work" "limits" "Lcom/example/tracemass/tracemass/numbers/Work$Limits;" (.ref lm)) (G2 : Fld Z h0 wk "com/example/tracemass/tracemass/numbers/Work" "comparisons" "J" (.long (0 : Int64))) (El : Exa Z h0 lm "com/example/tracemass/tracemass/numbers/Work$Limits") (Fl : Fld Z h0 lm "com/example/tracemass/tracemass/numbers/Work$Limits" "times" "I" (.int (1 : Int32))) (Ema : Exa Z h0 ma "com/example/tracemass/tracemass/nets/Marking") (Fma : Fld Z h0 ma "com/example/tracemass/tracemass/nets/Marking" "marked" "[I" mva) (Fca : Fld Z h0 ma "com/example/tracemass/tracemass/nets/Marking" "counts" "[I" (.ref cta)) (Fka : Fld Z h0 ma "com/example/tracemass/tracemass/nets/Marking" "markedCount" "I" (.int mca)) (Vma : AV Z h0 cta .int vsa) (hfa : own_fm mva mca vsa x0 x1)(Emq : Exa Z h0 mq "com/example/tracemass/tracemass/nets/Marking") (Fmq : Fld Z h0 mq "com/example/tracemass/tracemass/nets/Marking" "marked" "[I" mvq) (Fcq : Fld Z h0 mq "com/example/tracemass/tracemass/nets/Marking" "counts" "[I" (.ref ctq)) (Fkq : Fld Z h0 mq "com/example/tracemass/tracemass/nets/Marking" "markedCount" "I" (.int mcq)) (Vmq : AV Z h0 ctq .int vsq) (hfq : own_fm mvq mcq vsq z0 z1) : Con l Z (⟨"com/example/tracemass/tracemass/qstates/SilentPath", "latestCoveredBy", "(Lcom/example/tracemass/tracemass/nets/Marking;Lcom/example/tracemass/tracemass/numbers/Work;)Lcom/example/tracemass/tracemass/nets/Marking;"⟩ : MethodName) prog_86_method_5_code 6 (some (.object "com/example/tracemass/tracemass/nets/Marking")) [] ({ frames := 2, cells := 2, slots := 8, locals := 52 } : Room) #[(.ref a), (.ref mq), (.ref wk)] h0 (fun v h L => ((v = some (.ref ma) ∧ own_cd z0 z1 x0 x1) ∨ (v = some .null ∧ ¬ own_cd z0 z1 x0 x1)) ∧ Fr n0 L ∧ Keep h0 h [hl, ot, wk]) := by
  refine Con.of (plainFor_of_name pn_com_example_tracemass_tracemass_qstates_SilentPath) ?_
  intro p e s m below meth c T X hx hby hml hown hnm hret eT hZ hsh Φ fin
  replace hown : s.vm.findClass "com/example/tracemass/tracemass/qstates/SilentPath" = some m.cls := hown
  replace hml : 6 = c.maxLocals := hml.symm
  refine own_step (fun tq kq => castTop (ef_rmL1 m a mq wk) kq) ?_
  have N0 := Fr.nil n0
  have K0 : Keep h0 h0 [hl, ot, wk] := Keep.refl h0 [hl, ot, wk]
  refine own_aloadN X hx hby d_86_5__0 rfl rfl (pc' := 1) rfl ?_
  refine own_getF X hx hby hZ hown (host := "") (Or.inl (own_w hw 130 rfl)) Via.refl eT P_size d_86_5__1 (pc' := 4) rfl ?_
  intro T1 X1 e1
  refine own_ifN X1 hx hby d_86_5__4 ((if0 _ _).trans (feq (by decide)).1) (pc' := 7) rfl ?_
  refine own_aloadN X1 hx hby d_86_5__7 rfl rfl (pc' := 8) rfl ?_
  refine own_aloadN X1 hx hby d_86_5__8 rfl rfl (pc' := 9) rfl ?_
  refine own_callP X1 hx hby hZ (by exact hml) hown (own_w hw 132 rfl) (own_w hw 134 rfl) (own_selfsel (z := ({ cls := "com/example/tracemass/tracemass/qstates/SilentPath", name := "add", desc := "(Lcom/example/tracemass/tracemass/nets/Marking;)V" } : Jvm.MethodName)) (own_w hw 133 rfl) (own_w hw 134 rfl) rfl (own_w hw 128 rfl) (by decide)) (own_w hw 133 rfl) (own_w hw 84 rfl) (own_w hw 135 rfl) (by decide) e1 0 (by decide) (by decide) (by decide) (by decide) (argsL := [(.ref mq)]) (rest := []) (lenOf pd__Lcom_example_tracemass_tracemass_nets_Marking__J rfl) rfl (Nat.le_of_eq rfl) E (rmCT l Z a0 hw a cp mq ctq mvq mcq vsq z0 z1 h0 P_compared Vp Emq Fmq Fcq Fkq Vmq hfq) d_86_5__9 (pc' := 12) rfl ?_
  intro v2 T2 L2 X2 hQ2
  obtain ⟨rfl, rfl, e2⟩ := hQ2
  rw [List.append_nil] at X2
  replace e2 : T2.heap = h0 := e2
  show GoP p e below Φ (T2.setTop (mkF m 12 #[.val (.ref a), .val (.ref mq), .val (.ref wk), .unset, .unset, .unset] [(.long (own_tot z0 z1))]))
  refine own_aloadN X2 hx hby d_86_5__12 rfl rfl (pc' := 13) rfl ?_
  refine own_getF X2 hx hby hZ hown (host := "") (Or.inl (own_w hw 98 rfl)) Via.refl e2 P_fewestTotal d_86_5__13 (pc' := 16) rfl ?_
  intro T3 X3 e3
  refine own_aloadN X3 hx hby d_86_5__16 rfl rfl (pc' := 17) rfl ?_
  refine own_getF X3 hx hby hZ hown (host := "") (Or.inl (own_w hw 130 rfl)) Via.refl e3 P_size d_86_5__17 (pc' := 20) rfl ?_
  intro T4 X4 e4
  refine own_iconst X4 hx hby d_86_5__20 (v := (1 : Int32)) rfl (pc' := 21) rfl ?_
  refine own_isub X4 hx hby d_86_5__21 (pc' := 22) rfl ?_
  show GoP p e below Φ (T4.setTop (mkF m 22 #[.val (.ref a), .val (.ref mq), .val (.ref wk), .unset, .unset, .unset] [(.int (0 : Int32)), (.ref ft), (.long (own_tot z0 z1))]))
  refine own_laload X4 hx hby hZ e4 Vt (by decide) (v := (.long (own_tot x0 x1))) rfl d_86_5__22 (pc' := 23) rfl ?_
  refine own_lcmp X4 hx hby d_86_5__23 (pc' := 24) rfl ?_
  by_cases hc24_5 : (own_tot x0 x1) < (own_tot z0 z1)
  · refine own_ifY X4 hx hby d_86_5__24 ((if0 _ _).trans (tlt ((lw_gt _ _).mpr hc24_5)).2.2.1) (by decide) (pc' := 29) (by decide) ?_
    refine own_aloadN X4 hx hby d_86_5__29 rfl rfl (pc' := 30) rfl ?_
    refine own_getF X4 hx hby hZ hown (host := "") (Or.inl (own_w hw 109 rfl)) Via.refl e4 P_held d_86_5__30 (pc' := 33) rfl ?_
    intro T6 X6 e6
    refine own_aloadN X6 hx hby d_86_5__33 rfl rfl (pc' := 34) rfl ?_
    refine own_aloadN X6 hx hby d_86_5__34 rfl rfl (pc' := 35) rfl ?_
    refine own_getF X6 hx hby hZ hown (host := "") (Or.inl (own_w hw 120 rfl)) Via.refl e6 P_compared d_86_5__35 (pc' := 38) rfl ?_
    intro T7 X7 e7
    refine own_aloadN X7 hx hby d_86_5__38 rfl rfl (pc' := 39) rfl ?_
    refine own_getF X7 hx hby hZ hown (host := "") (Or.inl (own_w hw 113 rfl)) Via.refl e7 P_comparedCount d_86_5__39 (pc' := 42) rfl ?_
    intro T8 X8 e8
    have nt9 : a ≠ hl := Exa.ne E Eh (by decide)
    have nt10 : mks ≠ hl := (own_ne_av Eh (own_w hw 101 rfl) Vs).symm
    have nt11 : cp ≠ hl := (own_ne_av Eh (own_w hw 101 rfl) Vp).symm
    have nt12 : hv ≠ hl := (own_ne_av Eh (own_w hw 101 rfl) Vh).symm
    have nt13 : ov ≠ hl := (own_ne_av Eh (own_w hw 101 rfl) Vo).symm
    have nt14 : wk ≠ hl := Exa.ne Ew Eh (by decide)
    have nt15 : lm ≠ hl := Exa.ne El Eh (by decide)
    have nt16 : ma ≠ hl := Exa.ne Ema Eh (by decide)
    have nt17 : cta ≠ hl := (own_ne_av Eh (own_w hw 101 rfl) Vma).symm
    have nt18 : mq ≠ hl := Exa.ne Emq Eh (by decide)
    have nt19 : ctq ≠ hl := (own_ne_av Eh (own_w hw 101 rfl) Vmq).symm
    refine own_callV X8 hx hby hZ (by exact hml) hown (own_w hw 165 rfl) (own_w hw 166 rfl) (own_w hw 168 rfl) (own_w hw 167 rfl) (own_w hw 102 rfl) (own_w hw 169 rfl) (by decide) e8 0 (by decide) (by decide) (by decide) (by decide) (argsL := [(.ref mq), (.ref cp), (.int (2 : Int32))]) (rest := []) (lenOf pd__Lcom_example_tracemass_tracemass_nets_Marking__ZI_V rfl) rfl (Nat.le_of_eq rfl) Eh (rmRd l Z a0 hw hl hv cp mq ctq mvq mcq vsq z0 z1 n0 h0 n0_hl Z0 nt12 nt11 nt18 nt19 Eh F1h F2h Vh Vp Emq Fmq Fcq Fkq Vmq hfq) d_86_5__42 (pc' := 45) rfl ?_
    intro v20 T20 L20 X20 hQ20
    obtain ⟨rfl, Nq20, K20, nv20, E20, F120, F220, V20⟩ := hQ20
    have E21_a := E.keep K20
    have F22_markings := P_markings.keep K20 (ninS nt9 nin0)
    have F23_held := P_held.keep K20 (ninS nt9 nin0)
    have F24_other := P_other.keep K20 (ninS nt9 nin0)
    have F25_comparedCount := P_comparedCount.keep K20 (ninS nt9 nin0)
    have F26_compared := P_compared.keep K20 (ninS nt9 nin0)
    have F27_size := P_size.keep K20 (ninS nt9 nin0)
    have V28_mks := Vs.keep K20 (ninS nt10 nin0)
    have V29_cp := Vp.keep K20 (ninS nt11 nin0)
    have E30_ot := Eo.keep K20
    have F31_values := F1o.keep K20 (ninS (Ne.symm ne_hl_ot) nin0)
    have F32_length := F2o.keep K20 (ninS (Ne.symm ne_hl_ot) nin0)
    have V33_ov := Vo.keep K20 (ninS nt13 nin0)
    have E34_wk := Ew.keep K20
    have F35_limits := G1.keep K20 (ninS nt14 nin0)
    have F36_comparisons := G2.keep K20 (ninS nt14 nin0)
    have E37_lm := El.keep K20
    have F38_times := Fl.keep K20 (ninS nt15 nin0)
    have E39_ma := Ema.keep K20
    have F40_marked := Fma.keep K20 (ninS nt16 nin0)
    have F41_counts := Fca.keep K20 (ninS nt16 nin0)
    have F42_markedCount := Fka.keep K20 (ninS nt16 nin0)
    have V43_cta := Vma.keep K20 (ninS nt17 nin0)
    have N20 := Fr.app N0 Nq20
    have Z20 : n0 ≤ T20.heap.size := Nat.le_trans Z0 K20.1
    have KK20 : Keep h0 T20.heap [hl, ot, wk] := K0.trans K20 (allS (Or.inl (List.mem_of_getElem? (i := 0) rfl)) all0)
    show GoP p e below Φ (T20.setTop (mkF m 45 #[.val (.ref a), .val (.ref mq), .val (.ref wk), .unset, .unset, .unset] []))
    refine own_aloadN X20 hx hby d_86_5__45 rfl rfl (pc' := 46) rfl ?_
    refine own_getF X20 hx hby hZ hown (host := "") (Or.inl (own_w hw 130 rfl)) Via.refl rfl F27_size d_86_5__46 (pc' := 49) rfl ?_
    intro T44 X44 e44
    refine own_istoreN X44 hx hby d_86_5__49  (Ls' := #[.val (.ref a), .val (.ref mq), .val (.ref wk), .val (.int (1 : Int32)), .unset, .unset]) rfl (pc' := 50) rfl ?_
    refine own_iloadN X44 hx hby d_86_5__50 rfl (pc' := 51) rfl ?_
    refine own_callS X44 hx hby hZ (by exact hml) hown (own_w hw 184 rfl) (own_w hw 185 rfl) (own_w hw 186 rfl) (own_w hw 187 rfl) (by decide) e44 0 (by decide) (by decide) (by decide) (by decide) (argsL := [(.int (1 : Int32))]) (rest := []) (lenOf pd__I_I rfl) rfl (rmNT1 l Z a0 hw T20.heap) (Nat.le_of_eq rfl) d_86_5__51 (pc' := 54) rfl ?_
    intro v45 T45 L45 X45 hQ45
    obtain ⟨rfl, rfl, e45⟩ := hQ45
    rw [List.append_nil] at X45
    replace e45 : T45.heap = T20.heap := e45
    show GoP p e below Φ (T45.setTop (mkF m 54 #[.val (.ref a), .val (.ref mq), .val (.ref wk), .val (.int (1 : Int32)), .unset, .unset] [(.int (0 : Int32))]))
    refine own_istore X45 hx hby d_86_5__54  (Ls' := #[.val (.ref a), .val (.ref mq), .val (.ref wk), .val (.int (1 : Int32)), .val (.int (0 : Int32)), .unset]) rfl (pc' := 56) rfl ?_
    refine own_iloadN X45 hx hby d_86_5__56 rfl (pc' := 57) rfl ?_
    refine own_ifN X45 hx hby d_86_5__57 ((if0 _ _).trans (tlt (by decide)).2.2.2) (pc' := 60) rfl ?_
    refine own_iload X45 hx hby d_86_5__60 rfl (pc' := 62) rfl ?_
    refine own_iconst X45 hx hby d_86_5__62 (v := (4 : Int32)) rfl (pc' := 63) rfl ?_
    refine own_icmpN X45 hx hby d_86_5__63 (tlt (by decide)).2.1 (pc' := 66) rfl ?_
    refine own_aloadN X45 hx hby d_86_5__66 rfl rfl (pc' := 67) rfl ?_
    refine own_getF X45 hx hby hZ hown (host := "") (Or.inl (own_w hw 91 rfl)) Via.refl e45 F22_markings d_86_5__67 (pc' := 70) rfl ?_
    intro T46 X46 e46
    refine own_iinc X46 hx hby d_86_5__70 rfl (v := (-1 : Int32)) rfl (Ls' := #[.val (.ref a), .val (.ref mq), .val (.ref wk), .val (.int (0 : Int32)), .val (.int (0 : Int32)), .unset]) rfl (pc' := 73) rfl ?_
    refine own_iloadN X46 hx hby d_86_5__73 rfl (pc' := 74) rfl ?_
    refine own_aaload X46 hx hby hZ e46 V28_mks rfl (by decide) (v := (.ref ma)) rfl d_86_5__74 (pc' := 75) rfl ?_
    refine own_astore X46 hx hby d_86_5__75 rfl (Ls' := #[.val (.ref a), .val (.ref mq), .val (.ref wk), .val (.int (0 : Int32)), .val (.int (0 : Int32)), .val (.ref ma)]) rfl (pc' := 77) rfl ?_
    refine own_aloadN X46 hx hby d_86_5__77 rfl rfl (pc' := 78) rfl ?_
    refine own_iconst X46 hx hby d_86_5__78 (v := (1 : Int32)) rfl (pc' := 79) rfl ?_
    refine own_aload X46 hx hby d_86_5__79 rfl rfl (pc' := 81) rfl ?_
    refine own_callV X46 hx hby hZ (by exact hml) hown (own_w hw 188 rfl) (own_w hw 171 rfl) (own_w hw 173 rfl) (own_w hw 172 rfl) (own_w hw 4 rfl) (own_w hw 174 rfl) (by decide) e46 2 (by decide) (by decide) (by decide) (by decide) (argsL := []) (rest := [(.int (1 : Int32)), (.ref wk)]) (lenOf pd___I rfl) rfl (Nat.le_of_eq rfl) E39_ma (rmMd l Z a0 hw ma mca T20.heap F42_markedCount) d_86_5__81 (pc' := 84) rfl ?_
    intro v47 T47 L47 X47 hQ47
    obtain ⟨rfl, rfl, e47⟩ := hQ47
    rw [List.append_nil] at X47
    replace e47 : T47.heap = T20.heap := e47
    show GoP p e below Φ (T47.setTop (mkF m 84 #[.val (.ref a), .val (.ref mq), .val (.ref wk), .val (.int (0 : Int32)), .val (.int (0 : Int32)), .val (.ref ma)] [(.int mca), (.int (1 : Int32)), (.ref wk)]))
    refine own_aloadN X47 hx hby d_86_5__84 rfl rfl (pc' := 85) rfl ?_
    refine own_getF X47 hx hby hZ hown (host := "") (Or.inl (own_w hw 113 rfl)) Via.refl e47 F25_comparedCount d_86_5__85 (pc' := 88) rfl ?_
    intro T48 X48 e48
    refine own_callS X48 hx hby hZ (by exact hml) hown (own_w hw 189 rfl) (own_w hw 176 rfl) (own_w hw 117 rfl) (own_w hw 177 rfl) (by decide) e48 2 (by decide) (by decide) (by decide) (by decide) (argsL := [(.int mca), (.int (2 : Int32))]) (rest := [(.int (1 : Int32)), (.ref wk)]) (lenOf pd__II_I rfl) rfl (rmMn l Z a0 hw mca T20.heap (by rcases own_fmc hfa with q | q | q <;> rw [q] <;> decide)) (Nat.le_of_eq rfl) d_86_5__88 (pc' := 91) rfl ?_
    intro v49 T49 L49 X49 hQ49
    obtain ⟨rfl, rfl, e49⟩ := hQ49
    rw [List.append_nil] at X49
    replace e49 : T49.heap = T20.heap := e49
    show GoP p e below Φ (T49.setTop (mkF m 91 #[.val (.ref a), .val (.ref mq), .val (.ref wk), .val (.int (0 : Int32)), .val (.int (0 : Int32)), .val (.ref ma)] [(.int mca), (.int (1 : Int32)), (.ref wk)]))
    refine own_callS X49 hx hby hZ (by exact hml) hown (own_w hw 115 rfl) (own_w hw 116 rfl) (own_w hw 117 rfl) (own_w hw 118 rfl) (by decide) e49 1 (by decide) (by decide) (by decide) (by decide) (argsL := [(.int (1 : Int32)), (.int mca)]) (rest := [(.ref wk)]) (lenOf pd__II_I rfl) rfl (rmM1 l Z a0 hw mca T20.heap (own_fmc hfa)) (Nat.le_of_eq rfl) d_86_5__91 (pc' := 94) rfl ?_
    intro v50 T50 L50 X50 hQ50
    obtain ⟨r1, rfl, rfl, e50, hr1⟩ := hQ50
    rw [List.append_nil] at X50
    replace e50 : T50.heap = T20.heap := e50
    show GoP p e below Φ (T50.setTop (mkF m 94 #[.val (.ref a), .val (.ref mq), .val (.ref wk), .val (.int (0 : Int32)), .val (.int (0 : Int32)), .val (.ref ma)] [(.int r1), (.ref wk)]))
    have nt51 : a ≠ wk := Exa.ne E21_a E34_wk (by decide)
    have nt52 : mks ≠ wk := (own_ne_av E34_wk (own_w hw 53 rfl) V28_mks).symm
    have nt53 : cp ≠ wk := (own_ne_av E34_wk (own_w hw 53 rfl) V29_cp).symm
    have nt54 : ot ≠ wk := Exa.ne E30_ot E34_wk (by decide)
    have nt55 : ov ≠ wk := (own_ne_av E34_wk (own_w hw 53 rfl) V33_ov).symm
    have nt56 : lm ≠ wk := Exa.ne E37_lm E34_wk (by decide)
    have nt57 : ma ≠ wk := Exa.ne E39_ma E34_wk (by decide)
    have nt58 : cta ≠ wk := (own_ne_av E34_wk (own_w hw 53 rfl) V43_cta).symm
    have nt59 : nv20 ≠ wk := (own_ne_av E34_wk (own_w hw 53 rfl) V20).symm
    refine own_callV X50 hx hby hZ (by exact hml) hown (own_w hw 190 rfl) (own_w hw 191 rfl) (own_w hw 193 rfl) (own_w hw 192 rfl) (own_w hw 54 rfl) (own_w hw 194 rfl) (by decide) e50 0 (by decide) (by decide) (by decide) (by decide) (argsL := [(.int r1)]) (rest := []) (lenOf pd__I_Z rfl) rfl (Nat.le_of_eq rfl) E34_wk (rmCm l Z a0 hw wk lm r1 n0 T20.heap n0_wk nt56 (by rcases hr1 with q | q <;> rw [q] <;> decide) E34_wk F35_limits F36_comparisons E37_lm F38_times) d_86_5__94 (pc' := 97) rfl ?_
    intro v60 T60 L60 X60 hQ60
    obtain ⟨rfl, Nq60, K60⟩ := hQ60
    have E61_a := E21_a.keep K60
    have F62_markings := F22_markings.keep K60 (ninS nt51 nin0)
    have F63_held := F23_held.keep K60 (ninS nt51 nin0)
    have F64_other := F24_other.keep K60 (ninS nt51 nin0)
    have F65_comparedCount := F25_comparedCount.keep K60 (ninS nt51 nin0)
    have F66_compared := F26_compared.keep K60 (ninS nt51 nin0)
    have F67_size := F27_size.keep K60 (ninS nt51 nin0)
    have V68_mks := V28_mks.keep K60 (ninS nt52 nin0)
    have V69_cp := V29_cp.keep K60 (ninS nt53 nin0)
    have E70_hl := E20.keep K60
    have F71_values := F120.keep K60 (ninS (Ne.symm nt14) nin0)
    have F72_length := F220.keep K60 (ninS (Ne.symm nt14) nin0)
    have E73_ot := E30_ot.keep K60
    have F74_values := F31_values.keep K60 (ninS nt54 nin0)
    have F75_length := F32_length.keep K60 (ninS nt54 nin0)
    have V76_ov := V33_ov.keep K60 (ninS nt55 nin0)
    have E77_wk := E34_wk.keep K60
    have E80_ma := E39_ma.keep K60
    have F81_marked := F40_marked.keep K60 (ninS nt57 nin0)
    have F82_counts := F41_counts.keep K60 (ninS nt57 nin0)
    have F83_markedCount := F42_markedCount.keep K60 (ninS nt57 nin0)
    have V84_cta := V43_cta.keep K60 (ninS nt58 nin0)
    have V85_nv20 := V20.keep K60 (ninS nt59 nin0)
    have N60 := Fr.app N20 Nq60
    have Z60 : n0 ≤ T60.heap.size := Nat.le_trans Z20 K60.1
    have KK60 : Keep h0 T60.heap [hl, ot, wk] := KK20.trans K60 (allS (Or.inl (List.mem_of_getElem? (i := 2) rfl)) all0)
    show GoP p e below Φ (T60.setTop (mkF m 97 #[.val (.ref a), .val (.ref mq), .val (.ref wk), .val (.int (0 : Int32)), .val (.int (0 : Int32)), .val (.ref ma)] [(.int (1 : Int32))]))
    refine own_ifY X60 hx hby d_86_5__97 ((if0 _ _).trans (feq (by decide)).2) (by decide) (pc' := 102) (by decide) ?_
    refine own_aloadN X60 hx hby d_86_5__102 rfl rfl (pc' := 103) rfl ?_
    refine own_getF X60 hx hby hZ hown (host := "") (Or.inl (own_w hw 111 rfl)) Via.refl rfl F64_other d_86_5__103 (pc' := 106) rfl ?_
    intro T86 X86 e86
    refine own_aload X86 hx hby d_86_5__106 rfl rfl (pc' := 108) rfl ?_
    refine own_aloadN X86 hx hby d_86_5__108 rfl rfl (pc' := 109) rfl ?_
    refine own_getF X86 hx hby hZ hown (host := "") (Or.inl (own_w hw 120 rfl)) Via.refl e86 F66_compared d_86_5__109 (pc' := 112) rfl ?_
    intro T87 X87 e87
    refine own_aloadN X87 hx hby d_86_5__112 rfl rfl (pc' := 113) rfl ?_
    refine own_getF X87 hx hby hZ hown (host := "") (Or.inl (own_w hw 113 rfl)) Via.refl e87 F65_comparedCount d_86_5__113 (pc' := 116) rfl ?_
    intro T88 X88 e88
    have nt89 : a ≠ ot := Exa.ne E61_a E73_ot (by decide)
    have nt90 : mks ≠ ot := (own_ne_av E73_ot (own_w hw 101 rfl) V68_mks).symm
    have nt91 : cp ≠ ot := (own_ne_av E73_ot (own_w hw 101 rfl) V69_cp).symm
    have nt92 : ov ≠ ot := (own_ne_av E73_ot (own_w hw 101 rfl) V76_ov).symm
    have nt93 : ma ≠ ot := Exa.ne E80_ma E73_ot (by decide)
    have nt94 : cta ≠ ot := (own_ne_av E73_ot (own_w hw 101 rfl) V84_cta).symm
    have nt95 : nv20 ≠ ot := (own_ne_av E73_ot (own_w hw 101 rfl) V85_nv20).symm
    refine own_callV X88 hx hby hZ (by exact hml) hown (own_w hw 165 rfl) (own_w hw 166 rfl) (own_w hw 168 rfl) (own_w hw 167 rfl) (own_w hw 102 rfl) (own_w hw 169 rfl) (by decide) e88 0 (by decide) (by decide) (by decide) (by decide) (argsL := [(.ref ma), (.ref cp), (.int (2 : Int32))]) (rest := []) (lenOf pd__Lcom_example_tracemass_tracemass_nets_Marking__ZI_V rfl) rfl (Nat.le_of_eq rfl) E73_ot (rmRd l Z a0 hw ot ov cp ma cta mva mca vsa x0 x1 n0 T60.heap n0_ot Z60 nt92 nt91 nt93 nt94 E73_ot F74_values F75_length V76_ov V69_cp E80_ma F81_marked F82_counts F83_markedCount V84_cta hfa) d_86_5__116 (pc' := 119) rfl ?_
    intro v96 T96 L96 X96 hQ96
    obtain ⟨rfl, Nq96, K96, nv96, E96, F196, F296, V96⟩ := hQ96
    have E97_a := E61_a.keep K96
    have F98_markings := F62_markings.keep K96 (ninS nt89 nin0)
    have F99_held := F63_held.keep K96 (ninS nt89 nin0)
    have F100_other := F64_other.keep K96 (ninS nt89 nin0)
    have F101_comparedCount := F65_comparedCount.keep K96 (ninS nt89 nin0)
    have F102_compared := F66_compared.keep K96 (ninS nt89 nin0)
    have F103_size := F67_size.keep K96 (ninS nt89 nin0)
    have V104_mks := V68_mks.keep K96 (ninS nt90 nin0)
    have V105_cp := V69_cp.keep K96 (ninS nt91 nin0)
    have E106_hl := E70_hl.keep K96
    have F107_values := F71_values.keep K96 (ninS ne_hl_ot nin0)
    have F108_length := F72_length.keep K96 (ninS ne_hl_ot nin0)
    have E109_wk := E77_wk.keep K96
    have V110_nv20 := V85_nv20.keep K96 (ninS nt95 nin0)
    have N96 := Fr.app N60 Nq96
    have Z96 : n0 ≤ T96.heap.size := Nat.le_trans Z60 K96.1
    have KK96 : Keep h0 T96.heap [hl, ot, wk] := KK60.trans K96 (allS (Or.inl (List.mem_of_getElem? (i := 1) rfl)) all0)
    show GoP p e below Φ (T96.setTop (mkF m 119 #[.val (.ref a), .val (.ref mq), .val (.ref wk), .val (.int (0 : Int32)), .val (.int (0 : Int32)), .val (.ref ma)] []))
    refine own_aloadN X96 hx hby d_86_5__119 rfl rfl (pc' := 120) rfl ?_
    refine own_getF X96 hx hby hZ hown (host := "") (Or.inl (own_w hw 109 rfl)) Via.refl rfl F99_held d_86_5__120 (pc' := 123) rfl ?_
    intro T111 X111 e111
    refine own_aloadN X111 hx hby d_86_5__123 rfl rfl (pc' := 124) rfl ?_
    refine own_getF X111 hx hby hZ hown (host := "") (Or.inl (own_w hw 111 rfl)) Via.refl e111 F100_other d_86_5__124 (pc' := 127) rfl ?_
    intro T112 X112 e112
    refine own_getF X112 hx hby hZ hown (host := "") (Or.inl (own_w hw 205 rfl)) Via.refl e112 F196 d_86_5__127 (pc' := 130) rfl ?_
    intro T113 X113 e113
    refine own_aloadN X113 hx hby d_86_5__130 rfl rfl (pc' := 131) rfl ?_
    refine own_getF X113 hx hby hZ hown (host := "") (Or.inl (own_w hw 111 rfl)) Via.refl e113 F100_other d_86_5__131 (pc' := 134) rfl ?_
    intro T114 X114 e114
    refine own_getF X114 hx hby hZ hown (host := "") (Or.inl (own_w hw 206 rfl)) Via.refl e114 F296 d_86_5__134 (pc' := 137) rfl ?_
    intro T115 X115 e115
    refine own_callV X115 hx hby hZ (by exact hml) hown (own_w hw 207 rfl) (own_w hw 208 rfl) (own_w hw 210 rfl) (own_w hw 209 rfl) (own_w hw 102 rfl) (own_w hw 211 rfl) (by decide) e115 0 (by decide) (by decide) (by decide) (by decide) (argsL := [(.ref nv96), (.int (own_pl x0 x1))]) (rest := []) (lenOf pd___II_Z rfl) rfl (Nat.le_of_eq rfl) E106_hl (rmCv l Z a0 hw hl nv20 nv96 z0 z1 x0 x1 T96.heap nz0 nz1 E106_hl F107_values F108_length V110_nv20 V96) d_86_5__137 (pc' := 140) rfl ?_
    intro v116 T116 L116 X116 hQ116
    obtain ⟨rfl, rfl, e116⟩ := hQ116
    rw [List.append_nil] at X116
    replace e116 : T116.heap = T96.heap := e116
    show GoP p e below Φ (T116.setTop (mkF m 140 #[.val (.ref a), .val (.ref mq), .val (.ref wk), .val (.int (0 : Int32)), .val (.int (0 : Int32)), .val (.ref ma)] [(.int (own_cv z0 z1 x0 x1))]))
    by_cases hc140_117 : (own_cv z0 z1 x0 x1) = (0 : Int32)
    · refine own_ifY X116 hx hby d_86_5__140 ((if0 _ _).trans (teq hc140_117).1) (by decide) (pc' := 146) (by decide) ?_
      refine own_iloadN X116 hx hby d_86_5__146 rfl (pc' := 147) rfl ?_
      refine own_callS X116 hx hby hZ (by exact hml) hown (own_w hw 184 rfl) (own_w hw 185 rfl) (own_w hw 186 rfl) (own_w hw 187 rfl) (by decide) e116 0 (by decide) (by decide) (by decide) (by decide) (argsL := [(.int (0 : Int32))]) (rest := []) (lenOf pd__I_I rfl) rfl (rmNT0 l Z a0 hw T96.heap) (Nat.le_of_eq rfl) d_86_5__147 (pc' := 150) rfl ?_
      intro v118 T118 L118 X118 hQ118
      obtain ⟨rfl, rfl, e118⟩ := hQ118
      rw [List.append_nil] at X118
      replace e118 : T118.heap = T96.heap := e118
      show GoP p e below Φ (T118.setTop (mkF m 150 #[.val (.ref a), .val (.ref mq), .val (.ref wk), .val (.int (0 : Int32)), .val (.int (0 : Int32)), .val (.ref ma)] [(.int (32 : Int32))]))
      refine own_istore X118 hx hby d_86_5__150  (Ls' := #[.val (.ref a), .val (.ref mq), .val (.ref wk), .val (.int (0 : Int32)), .val (.int (32 : Int32)), .val (.ref ma)]) rfl (pc' := 152) rfl ?_
      refine own_goto X118 hx hby d_86_5__152 (by decide) (pc' := 56) (by decide) ?_
      refine own_iloadN X118 hx hby d_86_5__56 rfl (pc' := 57) rfl ?_
      refine own_ifY X118 hx hby d_86_5__57 ((if0 _ _).trans (flt (by decide)).2.2.2) (by decide) (pc' := 226) (by decide) ?_
      refine own_aconst_null X118 hx hby d_86_5__226 (pc' := 227) rfl ?_
      exact own_retA X118 hx hby fin hret rfl rfl rfl d_86_5__227 (by decide) (by decide) (by rw [e118]; exact ⟨Or.inr ⟨rfl, own_cv0 hc140_117⟩, N96, KK96⟩)
    · refine own_ifN X116 hx hby d_86_5__140 ((if0 _ _).trans (feq hc140_117).1) (pc' := 143) rfl ?_
      refine own_aload X116 hx hby d_86_5__143 rfl rfl (pc' := 145) rfl ?_
      exact own_retA X116 hx hby fin hret rfl rfl rfl d_86_5__145 (by decide) (by decide) (by rw [e116]; exact ⟨Or.inl ⟨rfl, own_cv1 hc140_117 hc24_5⟩, N96, KK96⟩)
  · refine own_ifN X4 hx hby d_86_5__24 ((if0 _ _).trans (flt (fun q => hc24_5 ((lw_gt _ _).mp q))).2.2.1) (pc' := 27) rfl ?_
    refine own_aconst_null X4 hx hby d_86_5__27 (pc' := 28) rfl ?_
    exact own_retA X4 hx hby fin hret rfl rfl rfl d_86_5__28 (by decide) (by decide) (by rw [e4]; exact ⟨Or.inr ⟨rfl, fun u => hc24_5 u.2.2⟩, N0, K0⟩)
theorem own_nn (x : Int32) : ¬ (x &&& (2147483647 : Int32)) < (0 : Int32) := by
  have a := c_mask x 2147483647 31 (by decide) (by decide)
  exact own_geI (by rw [own_z0]; omega)
theorem ef_rm0 (m : MethodId) (x0 : Int32) (x1 : Int32) (x2 : Int32) (x3 : Int32) (x4 : Int32) (x5 : Int32) : entryFrame m #[(.int x0), (.int x1), (.int x2), (.int x3), (.int x4), (.int x5)] maxLocals = mkF m 0 #[.val (.int x0), .val (.int x1), .val (.int x2), .val (.int x3), .val (.int x4), .val (.int x5), .unset, .unset, .unset, .unset, .unset, .unset, .unset, .unset, .unset, .unset, .unset, .unset, .unset, .unset, .unset] [] := by first | (simp [entryFrame, mkF, argsToLocals, Value.category, maxLocals]; done) | rfl
theorem pn_com_example_tracemass_tracemass_qstates_SilentPathRemoveLastPinLaw : plainName "com/example/tracemass/tracemass/qstates/SilentPathRemoveLastPinLaw" = true := by first | (simp [plainName, overriddenIn]; done) | decide +kernel
theorem pd___I_Lcom_example_tracemass_tracemass_nets_Marking_ : parseMethodDescriptor "([I)Lcom/example/tracemass/tracemass/nets/Marking;" = some ⟨[(.array .int)], some (.object "com/example/tracemass/tracemass/nets/Marking")⟩ := by decide +kernel
theorem pd__Lcom_example_tracemass_tracemass_numbers_Work_Limits__V : parseMethodDescriptor "(Lcom/example/tracemass/tracemass/numbers/Work$Limits;)V" = some ⟨[(.object "com/example/tracemass/tracemass/numbers/Work$Limits")], none⟩ := by decide +kernel
theorem pd___I_V : parseMethodDescriptor "([I)V" = some ⟨[(.array .int)], none⟩ := by decide +kernel
theorem pd__Lcom_example_tracemass_tracemass_nets_Marking__V : parseMethodDescriptor "(Lcom/example/tracemass/tracemass/nets/Marking;)V" = some ⟨[(.object "com/example/tracemass/tracemass/nets/Marking")], none⟩ := by decide +kernel
theorem pd__Lcom_example_tracemass_tracemass_nets_Marking_Lcom_example_tracemass_tracemass_numbers_Work__Lcom_example_tracemass_tracemass_nets_Marking_ : parseMethodDescriptor "(Lcom/example/tracemass/tracemass/nets/Marking;Lcom/example/tracemass/tracemass/numbers/Work;)Lcom/example/tracemass/tracemass/nets/Marking;" = some ⟨[(.object "com/example/tracemass/tracemass/nets/Marking"), (.object "com/example/tracemass/tracemass/numbers/Work")], some (.object "com/example/tracemass/tracemass/nets/Marking")⟩ := by decide +kernel
set_option maxRecDepth 65536 in
set_option maxHeartbeats 40000000 in
theorem rm0 (l : Launch) (Z : State) (a0 : Array Value) (hw : ∀ d ∈ tables_1, d.before a0 Z = true) (p1 p2 p3 p4 p5 p6 : Int32) (lm fr : Addr) (n0 : Nat) (h0 : Heap) (Z0 : n0 ≤ h0.size) (oL : lm < n0) (El : Exa Z h0 lm "com/example/tracemass/tracemass/numbers/Work$Limits") (Fl : Fld Z h0 lm "com/example/tracemass/tracemass/numbers/Work$Limits" "times" "I" (.int (1 : Int32))) (Sl : Sta Z h0 "com/example/tracemass/tracemass/numbers/Work$Limits" "DEFAULT" "Lcom/example/tracemass/tracemass/numbers/Work$Limits;" (.ref lm)) (Sf : Sta Z h0 "com/example/tracemass/tracemass/numbers/Work$Operands" "FRACTIONS" "Lcom/example/tracemass/tracemass/numbers/Work$Operands;" (.ref fr)) : ConX l Z x code maxLocals ret tables_1 room_1 #[(.int p1), (.int p2), (.int p3), (.int p4), (.int p5), (.int p6)] h0 (fun _ => True) (fun v h vm L => v = some (.int 1) ∧ Fr n0 L) := by
  refine ConX.of (plainFor_of_name pn_com_example_tracemass_tracemass_qstates_SilentPathRemoveLastPinLaw) ?_
  intro p e s m below meth c T vm0 k0 X hx hby hml hown hnm hret eT hZ hsh hS hk hPv Φ fin
  replace hown : vm0.findClass "com/example/tracemass/tracemass/qstates/SilentPathRemoveLastPinLaw" = some m.cls := hown
  replace hml : 21 = c.maxLocals := hml.symm
  refine own_step (fun tq kq => castTop (ef_rm0 m p1 p2 p3 p4 p5 p6) kq) ?_
  replace hret : meth.sig.returnType = (some .boolean) := hret
  have N0 := Fr.nil n0
  refine own_iloadN X hx hby at_0 rfl (pc' := 1) rfl ?_
  refine own_ldcI X hx hby hZ hown (own_w hw 0 rfl) at_1 (pc' := 3) rfl ?_
  refine own_iand X hx hby at_3 (pc' := 4) rfl ?_
  refine own_istore X hx hby at_4  (Ls' := #[.val (.int p1), .val (.int p2), .val (.int p3), .val (.int p4), .val (.int p5), .val (.int p6), .val (.int (p1 &&& (2147483647 : Int32))), .unset, .unset, .unset, .unset, .unset, .unset, .unset, .unset, .unset, .unset, .unset, .unset, .unset, .unset]) rfl (pc' := 6) rfl ?_
  refine own_iloadN X hx hby at_6 rfl (pc' := 7) rfl ?_
  refine own_ldcI X hx hby hZ hown (own_w hw 0 rfl) at_7 (pc' := 9) rfl ?_
  refine own_iand X hx hby at_9 (pc' := 10) rfl ?_
  refine own_istore X hx hby at_10  (Ls' := #[.val (.int p1), .val (.int p2), .val (.int p3), .val (.int p4), .val (.int p5), .val (.int p6), .val (.int (p1 &&& (2147483647 : Int32))), .val (.int (p2 &&& (2147483647 : Int32))), .unset, .unset, .unset, .unset, .unset, .unset, .unset, .unset, .unset, .unset, .unset, .unset, .unset]) rfl (pc' := 12) rfl ?_
  refine own_iloadN X hx hby at_12 rfl (pc' := 13) rfl ?_
  refine own_ldcI X hx hby hZ hown (own_w hw 0 rfl) at_13 (pc' := 15) rfl ?_
  refine own_iand X hx hby at_15 (pc' := 16) rfl ?_
  refine own_istore X hx hby at_16  (Ls' := #[.val (.int p1), .val (.int p2), .val (.int p3), .val (.int p4), .val (.int p5), .val (.int p6), .val (.int (p1 &&& (2147483647 : Int32))), .val (.int (p2 &&& (2147483647 : Int32))), .val (.int (p3 &&& (2147483647 : Int32))), .unset, .unset, .unset, .unset, .unset, .unset, .unset, .unset, .unset, .unset, .unset, .unset]) rfl (pc' := 18) rfl ?_
  refine own_iloadN X hx hby at_18 rfl (pc' := 19) rfl ?_
  refine own_ldcI X hx hby hZ hown (own_w hw 0 rfl) at_19 (pc' := 21) rfl ?_
  refine own_iand X hx hby at_21 (pc' := 22) rfl ?_
  refine own_istore X hx hby at_22  (Ls' := #[.val (.int p1), .val (.int p2), .val (.int p3), .val (.int p4), .val (.int p5), .val (.int p6), .val (.int (p1 &&& (2147483647 : Int32))), .val (.int (p2 &&& (2147483647 : Int32))), .val (.int (p3 &&& (2147483647 : Int32))), .val (.int (p4 &&& (2147483647 : Int32))), .unset, .unset, .unset, .unset, .unset, .unset, .unset, .unset, .unset, .unset, .unset]) rfl (pc' := 24) rfl ?_
  refine own_iload X hx hby at_24 rfl (pc' := 26) rfl ?_
  refine own_ldcI X hx hby hZ hown (own_w hw 0 rfl) at_26 (pc' := 28) rfl ?_
  refine own_iand X hx hby at_28 (pc' := 29) rfl ?_
  refine own_istore X hx hby at_29  (Ls' := #[.val (.int p1), .val (.int p2), .val (.int p3), .val (.int p4), .val (.int p5), .val (.int p6), .val (.int (p1 &&& (2147483647 : Int32))), .val (.int (p2 &&& (2147483647 : Int32))), .val (.int (p3 &&& (2147483647 : Int32))), .val (.int (p4 &&& (2147483647 : Int32))), .val (.int (p5 &&& (2147483647 : Int32))), .unset, .unset, .unset, .unset, .unset, .unset, .unset, .unset, .unset, .unset]) rfl (pc' := 31) rfl ?_
  refine own_iload X hx hby at_31 rfl (pc' := 33) rfl ?_
  refine own_ldcI X hx hby hZ hown (own_w hw 0 rfl) at_33 (pc' := 35) rfl ?_
  refine own_iand X hx hby at_35 (pc' := 36) rfl ?_
  refine own_istore X hx hby at_36  (Ls' := #[.val (.int p1), .val (.int p2), .val (.int p3), .val (.int p4), .val (.int p5), .val (.int p6), .val (.int (p1 &&& (2147483647 : Int32))), .val (.int (p2 &&& (2147483647 : Int32))), .val (.int (p3 &&& (2147483647 : Int32))), .val (.int (p4 &&& (2147483647 : Int32))), .val (.int (p5 &&& (2147483647 : Int32))), .val (.int (p6 &&& (2147483647 : Int32))), .unset, .unset, .unset, .unset, .unset, .unset, .unset, .unset, .unset]) rfl (pc' := 38) rfl ?_
  obtain ⟨x0, e_x0, nx0⟩ : ∃ q : Int32, q = (p1 &&& (2147483647 : Int32)) ∧ ¬ q < (0 : Int32) := ⟨_, rfl, own_nn _⟩
  rw [← e_x0]
  obtain ⟨x1, e_x1, nx1⟩ : ∃ q : Int32, q = (p2 &&& (2147483647 : Int32)) ∧ ¬ q < (0 : Int32) := ⟨_, rfl, own_nn _⟩
  rw [← e_x1]
  obtain ⟨y0, e_y0, ny0⟩ : ∃ q : Int32, q = (p3 &&& (2147483647 : Int32)) ∧ ¬ q < (0 : Int32) := ⟨_, rfl, own_nn _⟩
  rw [← e_y0]
  obtain ⟨y1, e_y1, ny1⟩ : ∃ q : Int32, q = (p4 &&& (2147483647 : Int32)) ∧ ¬ q < (0 : Int32) := ⟨_, rfl, own_nn _⟩
  rw [← e_y1]
  obtain ⟨z0, e_z0, nz0⟩ : ∃ q : Int32, q = (p5 &&& (2147483647 : Int32)) ∧ ¬ q < (0 : Int32) := ⟨_, rfl, own_nn _⟩
  rw [← e_z0]
  obtain ⟨z1, e_z1, nz1⟩ : ∃ q : Int32, q = (p6 &&& (2147483647 : Int32)) ∧ ¬ q < (0 : Int32) := ⟨_, rfl, own_nn _⟩
  rw [← e_z1]
  refine own_iconst X hx hby at_38 (v := (2 : Int32)) rfl (pc' := 39) rfl ?_
  refine own_newI X hx hby hZ (own_w hw 1 rfl) eT (by decide) 2 (by decide) (by decide) (by decide) (by decide) at_39 (pc' := 41) rfl ?_
  intro T1 h1 b1 X1 e1 E1 g1 V1 I1 A1
  have ne_lm_b1 : lm ≠ b1 := Nat.ne_of_lt (g1 ▸ El.lt)
  have E2_lm := El.ext E1
  have F3_times := Fl.ext E1
  have S4_DEFAULT := Sl.ext E1
  have S5_FRACTIONS := Sf.ext E1
  replace hk := Nat.le_trans hk E1.1
  have Z1 : n0 ≤ h1.size := Nat.le_trans Z0 E1.1
  have n0_b1 : n0 ≤ b1 := g1 ▸ Z0
  replace V1 : AV Z h1 b1 .int [(.int (0 : Int32)), (.int (0 : Int32))] := V1
  show GoP p e below Φ (T1.setTop (mkF m 41 #[.val (.int p1), .val (.int p2), .val (.int p3), .val (.int p4), .val (.int p5), .val (.int p6), .val (.int x0), .val (.int x1), .val (.int y0), .val (.int y1), .val (.int z0), .val (.int z1), .unset, .unset, .unset, .unset, .unset, .unset, .unset, .unset, .unset] [(.ref b1)]))
  refine own_dup X1 hx hby at_41 rfl (pc' := 42) rfl ?_
  refine own_iconst X1 hx hby at_42 (v := (0 : Int32)) rfl (pc' := 43) rfl ?_
  refine own_iload X1 hx hby at_43 rfl (pc' := 45) rfl ?_
  refine own_iastore X1 hx hby hZ e1 V1 (by decide) (Nat.le_of_ble_eq_true rfl) at_45 (pc' := 46) rfl ?_
  intro T6 h6 X6 e6 W6 V6
  replace V6 : AV Z h6 b1 .int [(.int x0), (.int (0 : Int32))] := V6
  have E7_lm := E2_lm.wr W6
  have F8_times := F3_times.other W6 (Or.inl ne_lm_b1)
  have S9_DEFAULT := S4_DEFAULT.wr W6
  have S10_FRACTIONS := S5_FRACTIONS.wr W6
  have E12_b1 := A1.wr W6
  replace hk := W6.size.symm ▸ hk
  have Z6 : n0 ≤ h6.size := by rw [W6.size]; exact Z1
  have N6 := Fr.snoc X6 N0 n0_b1
  refine own_dup X6 hx hby at_46 rfl (pc' := 47) rfl ?_
  refine own_iconst X6 hx hby at_47 (v := (1 : Int32)) rfl (pc' := 48) rfl ?_
  refine own_iload X6 hx hby at_48 rfl (pc' := 50) rfl ?_
  refine own_iastore X6 hx hby hZ e6 V6 (by decide) (Nat.le_of_ble_eq_true rfl) at_50 (pc' := 51) rfl ?_
  intro T13 h13 X13 e13 W13 V13
  replace V13 : AV Z h13 b1 .int [(.int x0), (.int x1)] := V13
  have E14_lm := E7_lm.wr W13
  have F15_times := F8_times.other W13 (Or.inl ne_lm_b1)
  have S16_DEFAULT := S9_DEFAULT.wr W13
  have S17_FRACTIONS := S10_FRACTIONS.wr W13
  have E19_b1 := E12_b1.wr W13
  replace hk := W13.size.symm ▸ hk
  have Z13 : n0 ≤ h13.size := by rw [W13.size]; exact Z6
  have N13 := Fr.snoc X13 N6 n0_b1
  refine own_callS X13 hx hby hZ (by exact hml) hown (own_w hw 2 rfl) (own_w hw 3 rfl) (own_w hw 4 rfl) (own_w hw 5 rfl) (by decide) e13 0 (by decide) (by decide) (by decide) (by decide) (argsL := [(.ref b1)]) (rest := []) (lenOf pd___I_Lcom_example_tracemass_tracemass_nets_Marking_ rfl) rfl (rmOf l Z a0 hw b1 x0 x1 n0 h13 nx0 nx1 Z13 E19_b1 V13) (Nat.le_of_eq rfl) at_51 (pc' := 54) rfl ?_
  intro v20 T20 L20 X20 hQ20
  obtain ⟨mk_a, ct_a, mv_a, mc_a, vs_a, rfl, Nq20, K20, sm20, sc20, E20, F120, F220, F320, V20, hf_a⟩ := hQ20
  have E21_lm := E14_lm.keep K20
  have F22_times := F15_times.keep K20 nin0
  have S23_DEFAULT := own_stakeep S16_DEFAULT K20 all0
  have S24_FRACTIONS := own_stakeep S17_FRACTIONS K20 all0
  have N20 := Fr.app N13 Nq20
  have Z20 : n0 ≤ T20.heap.size := Nat.le_trans Z13 K20.1
  replace hk := Nat.le_trans hk K20.1
  show GoP p e below Φ (T20.setTop (mkF m 54 #[.val (.int p1), .val (.int p2), .val (.int p3), .val (.int p4), .val (.int p5), .val (.int p6), .val (.int x0), .val (.int x1), .val (.int y0), .val (.int y1), .val (.int z0), .val (.int z1), .unset, .unset, .unset, .unset, .unset, .unset, .unset, .unset, .unset] [(.ref mk_a)]))
  refine own_astore X20 hx hby at_54 rfl (Ls' := #[.val (.int p1), .val (.int p2), .val (.int p3), .val (.int p4), .val (.int p5), .val (.int p6), .val (.int x0), .val (.int x1), .val (.int y0), .val (.int y1), .val (.int z0), .val (.int z1), .val (.ref mk_a), .unset, .unset, .unset, .unset, .unset, .unset, .unset, .unset]) rfl (pc' := 56) rfl ?_
  refine own_iconst X20 hx hby at_56 (v := (2 : Int32)) rfl (pc' := 57) rfl ?_
  refine own_newI X20 hx hby hZ (own_w hw 1 rfl) rfl (by decide) 2 (by decide) (by decide) (by decide) (by decide) at_57 (pc' := 59) rfl ?_
  intro T25 h25 b25 X25 e25 E25 g25 V25 I25 A25
  have ne_lm_b25 : lm ≠ b25 := Nat.ne_of_lt (g25 ▸ E21_lm.lt)
  have ne_mk_a_b25 : mk_a ≠ b25 := Nat.ne_of_lt (g25 ▸ E20.lt)
  have ne_ct_a_b25 : ct_a ≠ b25 := Nat.ne_of_lt (g25 ▸ V20.lt)
  have E26_lm := E21_lm.ext E25
  have F27_times := F22_times.ext E25
  have S28_DEFAULT := S23_DEFAULT.ext E25
  have S29_FRACTIONS := S24_FRACTIONS.ext E25
  have E30_mk_a := E20.ext E25
  have F31_marked := F120.ext E25
  have F32_counts := F220.ext E25
  have F33_markedCount := F320.ext E25
  have V34_ct_a := V20.ext E25
  replace hk := Nat.le_trans hk E25.1
  have Z25 : n0 ≤ h25.size := Nat.le_trans Z20 E25.1
  have n0_b25 : n0 ≤ b25 := g25 ▸ Z20
  replace V25 : AV Z h25 b25 .int [(.int (0 : Int32)), (.int (0 : Int32))] := V25
  show GoP p e below Φ (T25.setTop (mkF m 59 #[.val (.int p1), .val (.int p2), .val (.int p3), .val (.int p4), .val (.int p5), .val (.int p6), .val (.int x0), .val (.int x1), .val (.int y0), .val (.int y1), .val (.int z0), .val (.int z1), .val (.ref mk_a), .unset, .unset, .unset, .unset, .unset, .unset, .unset, .unset] [(.ref b25)]))
  refine own_dup X25 hx hby at_59 rfl (pc' := 60) rfl ?_
  refine own_iconst X25 hx hby at_60 (v := (0 : Int32)) rfl (pc' := 61) rfl ?_
  refine own_iload X25 hx hby at_61 rfl (pc' := 63) rfl ?_
  refine own_iastore X25 hx hby hZ e25 V25 (by decide) (Nat.le_of_ble_eq_true rfl) at_63 (pc' := 64) rfl ?_
  intro T35 h35 X35 e35 W35 V35
  replace V35 : AV Z h35 b25 .int [(.int y0), (.int (0 : Int32))] := V35
  have E36_lm := E26_lm.wr W35
  have F37_times := F27_times.other W35 (Or.inl ne_lm_b25)
  have S38_DEFAULT := S28_DEFAULT.wr W35
  have S39_FRACTIONS := S29_FRACTIONS.wr W35
  have E40_mk_a := E30_mk_a.wr W35
  have F41_marked := F31_marked.other W35 (Or.inl ne_mk_a_b25)
  have F42_counts := F32_counts.other W35 (Or.inl ne_mk_a_b25)
  have F43_markedCount := F33_markedCount.other W35 (Or.inl ne_mk_a_b25)
  have V44_ct_a := V34_ct_a.other W35 ne_ct_a_b25
  have E46_b25 := A25.wr W35
  replace hk := W35.size.symm ▸ hk
  have Z35 : n0 ≤ h35.size := by rw [W35.size]; exact Z25
  have N35 := Fr.snoc X35 N20 n0_b25
  refine own_dup X35 hx hby at_64 rfl (pc' := 65) rfl ?_
  refine own_iconst X35 hx hby at_65 (v := (1 : Int32)) rfl (pc' := 66) rfl ?_
  refine own_iload X35 hx hby at_66 rfl (pc' := 68) rfl ?_
  refine own_iastore X35 hx hby hZ e35 V35 (by decide) (Nat.le_of_ble_eq_true rfl) at_68 (pc' := 69) rfl ?_
  intro T47 h47 X47 e47 W47 V47
  replace V47 : AV Z h47 b25 .int [(.int y0), (.int y1)] := V47
  have E48_lm := E36_lm.wr W47
  have F49_times := F37_times.other W47 (Or.inl ne_lm_b25)
  have S50_DEFAULT := S38_DEFAULT.wr W47
  have S51_FRACTIONS := S39_FRACTIONS.wr W47
  have E52_mk_a := E40_mk_a.wr W47
  have F53_marked := F41_marked.other W47 (Or.inl ne_mk_a_b25)
  have F54_counts := F42_counts.other W47 (Or.inl ne_mk_a_b25)
  have F55_markedCount := F43_markedCount.other W47 (Or.inl ne_mk_a_b25)
  have V56_ct_a := V44_ct_a.other W47 ne_ct_a_b25
  have E58_b25 := E46_b25.wr W47
  replace hk := W47.size.symm ▸ hk
  have Z47 : n0 ≤ h47.size := by rw [W47.size]; exact Z35
  have N47 := Fr.snoc X47 N35 n0_b25
  refine own_callS X47 hx hby hZ (by exact hml) hown (own_w hw 2 rfl) (own_w hw 3 rfl) (own_w hw 4 rfl) (own_w hw 5 rfl) (by decide) e47 0 (by decide) (by decide) (by decide) (by decide) (argsL := [(.ref b25)]) (rest := []) (lenOf pd___I_Lcom_example_tracemass_tracemass_nets_Marking_ rfl) rfl (rmOf l Z a0 hw b25 y0 y1 n0 h47 ny0 ny1 Z47 E58_b25 V47) (Nat.le_of_eq rfl) at_69 (pc' := 72) rfl ?_
  intro v59 T59 L59 X59 hQ59
  obtain ⟨mk_b, ct_b, mv_b, mc_b, vs_b, rfl, Nq59, K59, sm59, sc59, E59, F159, F259, F359, V59, hf_b⟩ := hQ59
  have E60_lm := E48_lm.keep K59
  have F61_times := F49_times.keep K59 nin0
  have S62_DEFAULT := own_stakeep S50_DEFAULT K59 all0
  have S63_FRACTIONS := own_stakeep S51_FRACTIONS K59 all0
  have E64_mk_a := E52_mk_a.keep K59
  have F65_marked := F53_marked.keep K59 nin0
  have F66_counts := F54_counts.keep K59 nin0
  have F67_markedCount := F55_markedCount.keep K59 nin0
  have V68_ct_a := V56_ct_a.keep K59 nin0
  have N59 := Fr.app N47 Nq59
  have Z59 : n0 ≤ T59.heap.size := Nat.le_trans Z47 K59.1
  replace hk := Nat.le_trans hk K59.1
  show GoP p e below Φ (T59.setTop (mkF m 72 #[.val (.int p1), .val (.int p2), .val (.int p3), .val (.int p4), .val (.int p5), .val (.int p6), .val (.int x0), .val (.int x1), .val (.int y0), .val (.int y1), .val (.int z0), .val (.int z1), .val (.ref mk_a), .unset, .unset, .unset, .unset, .unset, .unset, .unset, .unset] [(.ref mk_b)]))
  refine own_astore X59 hx hby at_72 rfl (Ls' := #[.val (.int p1), .val (.int p2), .val (.int p3), .val (.int p4), .val (.int p5), .val (.int p6), .val (.int x0), .val (.int x1), .val (.int y0), .val (.int y1), .val (.int z0), .val (.int z1), .val (.ref mk_a), .val (.ref mk_b), .unset, .unset, .unset, .unset, .unset, .unset, .unset]) rfl (pc' := 74) rfl ?_
  refine own_iconst X59 hx hby at_74 (v := (2 : Int32)) rfl (pc' := 75) rfl ?_
  refine own_newI X59 hx hby hZ (own_w hw 1 rfl) rfl (by decide) 2 (by decide) (by decide) (by decide) (by decide) at_75 (pc' := 77) rfl ?_
  intro T69 h69 b69 X69 e69 E69 g69 V69 I69 A69
  have ne_lm_b69 : lm ≠ b69 := Nat.ne_of_lt (g69 ▸ E60_lm.lt)
  have ne_mk_a_b69 : mk_a ≠ b69 := Nat.ne_of_lt (g69 ▸ E64_mk_a.lt)
  have ne_ct_a_b69 : ct_a ≠ b69 := Nat.ne_of_lt (g69 ▸ V68_ct_a.lt)
  have ne_mk_b_b69 : mk_b ≠ b69 := Nat.ne_of_lt (g69 ▸ E59.lt)
  have ne_ct_b_b69 : ct_b ≠ b69 := Nat.ne_of_lt (g69 ▸ V59.lt)
  have E70_lm := E60_lm.ext E69
  have F71_times := F61_times.ext E69
  have S72_DEFAULT := S62_DEFAULT.ext E69
  have S73_FRACTIONS := S63_FRACTIONS.ext E69
  have E74_mk_a := E64_mk_a.ext E69
  have F75_marked := F65_marked.ext E69
  have F76_counts := F66_counts.ext E69
  have F77_markedCount := F67_markedCount.ext E69
  have V78_ct_a := V68_ct_a.ext E69
  have E79_mk_b := E59.ext E69
  have F80_marked := F159.ext E69
  have F81_counts := F259.ext E69
  have F82_markedCount := F359.ext E69
  have V83_ct_b := V59.ext E69
  replace hk := Nat.le_trans hk E69.1
  have Z69 : n0 ≤ h69.size := Nat.le_trans Z59 E69.1
  have n0_b69 : n0 ≤ b69 := g69 ▸ Z59
  replace V69 : AV Z h69 b69 .int [(.int (0 : Int32)), (.int (0 : Int32))] := V69
  show GoP p e below Φ (T69.setTop (mkF m 77 #[.val (.int p1), .val (.int p2), .val (.int p3), .val (.int p4), .val (.int p5), .val (.int p6), .val (.int x0), .val (.int x1), .val (.int y0), .val (.int y1), .val (.int z0), .val (.int z1), .val (.ref mk_a), .val (.ref mk_b), .unset, .unset, .unset, .unset, .unset, .unset, .unset] [(.ref b69)]))
  refine own_dup X69 hx hby at_77 rfl (pc' := 78) rfl ?_
  refine own_iconst X69 hx hby at_78 (v := (0 : Int32)) rfl (pc' := 79) rfl ?_
  refine own_iload X69 hx hby at_79 rfl (pc' := 81) rfl ?_
  refine own_iastore X69 hx hby hZ e69 V69 (by decide) (Nat.le_of_ble_eq_true rfl) at_81 (pc' := 82) rfl ?_
  intro T84 h84 X84 e84 W84 V84
  replace V84 : AV Z h84 b69 .int [(.int z0), (.int (0 : Int32))] := V84
  have E85_lm := E70_lm.wr W84
  have F86_times := F71_times.other W84 (Or.inl ne_lm_b69)
  have S87_DEFAULT := S72_DEFAULT.wr W84
  have S88_FRACTIONS := S73_FRACTIONS.wr W84
  have E89_mk_a := E74_mk_a.wr W84
  have F90_marked := F75_marked.other W84 (Or.inl ne_mk_a_b69)
  have F91_counts := F76_counts.other W84 (Or.inl ne_mk_a_b69)
  have F92_markedCount := F77_markedCount.other W84 (Or.inl ne_mk_a_b69)
  have V93_ct_a := V78_ct_a.other W84 ne_ct_a_b69
  have E94_mk_b := E79_mk_b.wr W84
  have F95_marked := F80_marked.other W84 (Or.inl ne_mk_b_b69)
  have F96_counts := F81_counts.other W84 (Or.inl ne_mk_b_b69)
  have F97_markedCount := F82_markedCount.other W84 (Or.inl ne_mk_b_b69)
  have V98_ct_b := V83_ct_b.other W84 ne_ct_b_b69
  have E100_b69 := A69.wr W84
  replace hk := W84.size.symm ▸ hk
  have Z84 : n0 ≤ h84.size := by rw [W84.size]; exact Z69
  have N84 := Fr.snoc X84 N59 n0_b69
  refine own_dup X84 hx hby at_82 rfl (pc' := 83) rfl ?_
  refine own_iconst X84 hx hby at_83 (v := (1 : Int32)) rfl (pc' := 84) rfl ?_
  refine own_iload X84 hx hby at_84 rfl (pc' := 86) rfl ?_
  refine own_iastore X84 hx hby hZ e84 V84 (by decide) (Nat.le_of_ble_eq_true rfl) at_86 (pc' := 87) rfl ?_
  intro T101 h101 X101 e101 W101 V101
  replace V101 : AV Z h101 b69 .int [(.int z0), (.int z1)] := V101
  have E102_lm := E85_lm.wr W101
  have F103_times := F86_times.other W101 (Or.inl ne_lm_b69)
  have S104_DEFAULT := S87_DEFAULT.wr W101
  have S105_FRACTIONS := S88_FRACTIONS.wr W101
  have E106_mk_a := E89_mk_a.wr W101
  have F107_marked := F90_marked.other W101 (Or.inl ne_mk_a_b69)
  have F108_counts := F91_counts.other W101 (Or.inl ne_mk_a_b69)
  have F109_markedCount := F92_markedCount.other W101 (Or.inl ne_mk_a_b69)
  have V110_ct_a := V93_ct_a.other W101 ne_ct_a_b69
  have E111_mk_b := E94_mk_b.wr W101
  have F112_marked := F95_marked.other W101 (Or.inl ne_mk_b_b69)
  have F113_counts := F96_counts.other W101 (Or.inl ne_mk_b_b69)
  have F114_markedCount := F97_markedCount.other W101 (Or.inl ne_mk_b_b69)
  have V115_ct_b := V98_ct_b.other W101 ne_ct_b_b69
  have E117_b69 := E100_b69.wr W101
  replace hk := W101.size.symm ▸ hk
  have Z101 : n0 ≤ h101.size := by rw [W101.size]; exact Z84
  have N101 := Fr.snoc X101 N84 n0_b69
  refine own_callS X101 hx hby hZ (by exact hml) hown (own_w hw 2 rfl) (own_w hw 3 rfl) (own_w hw 4 rfl) (own_w hw 5 rfl) (by decide) e101 0 (by decide) (by decide) (by decide) (by decide) (argsL := [(.ref b69)]) (rest := []) (lenOf pd___I_Lcom_example_tracemass_tracemass_nets_Marking_ rfl) rfl (rmOf l Z a0 hw b69 z0 z1 n0 h101 nz0 nz1 Z101 E117_b69 V101) (Nat.le_of_eq rfl) at_87 (pc' := 90) rfl ?_
  intro v118 T118 L118 X118 hQ118
  obtain ⟨mk_q, ct_q, mv_q, mc_q, vs_q, rfl, Nq118, K118, sm118, sc118, E118, F1118, F2118, F3118, V118, hf_q⟩ := hQ118
  have E119_lm := E102_lm.keep K118
  have F120_times := F103_times.keep K118 nin0
  have S121_DEFAULT := own_stakeep S104_DEFAULT K118 all0
  have S122_FRACTIONS := own_stakeep S105_FRACTIONS K118 all0
  have E123_mk_a := E106_mk_a.keep K118
  have F124_marked := F107_marked.keep K118 nin0
  have F125_counts := F108_counts.keep K118 nin0
  have F126_markedCount := F109_markedCount.keep K118 nin0
  have V127_ct_a := V110_ct_a.keep K118 nin0
  have E128_mk_b := E111_mk_b.keep K118
  have F129_marked := F112_marked.keep K118 nin0
  have F130_counts := F113_counts.keep K118 nin0
  have F131_markedCount := F114_markedCount.keep K118 nin0
  have V132_ct_b := V115_ct_b.keep K118 nin0
  have N118 := Fr.app N101 Nq118
  have Z118 : n0 ≤ T118.heap.size := Nat.le_trans Z101 K118.1
  replace hk := Nat.le_trans hk K118.1
  show GoP p e below Φ (T118.setTop (mkF m 90 #[.val (.int p1), .val (.int p2), .val (.int p3), .val (.int p4), .val (.int p5), .val (.int p6), .val (.int x0), .val (.int x1), .val (.int y0), .val (.int y1), .val (.int z0), .val (.int z1), .val (.ref mk_a), .val (.ref mk_b), .unset, .unset, .unset, .unset, .unset, .unset, .unset] [(.ref mk_q)]))
  refine own_astore X118 hx hby at_90 rfl (Ls' := #[.val (.int p1), .val (.int p2), .val (.int p3), .val (.int p4), .val (.int p5), .val (.int p6), .val (.int x0), .val (.int x1), .val (.int y0), .val (.int y1), .val (.int z0), .val (.int z1), .val (.ref mk_a), .val (.ref mk_b), .val (.ref mk_q), .unset, .unset, .unset, .unset, .unset, .unset]) rfl (pc' := 92) rfl ?_
  obtain ⟨T133, h133, X133, e133, E133, A133, D133, -, st133⟩ := newO X118 hx hZ hown (own_w hw 52 rfl) (own_w hw 53 rfl) (own_w hw 54 rfl) rfl (g := (mkF m 92 #[.val (.int p1), .val (.int p2), .val (.int p3), .val (.int p4), .val (.int p5), .val (.int p6), .val (.int x0), .val (.int x1), .val (.int y0), .val (.int y1), .val (.int z0), .val (.int z1), .val (.ref mk_a), .val (.ref mk_b), .val (.ref mk_q), .unset, .unset, .unset, .unset, .unset, .unset] [])) rfl (hb hby at_92) (by decide) (by decide)
  obtain ⟨b133, g133⟩ : ∃ z, z = T118.heap.size := ⟨_, rfl⟩
  have ne_lm_b133 : lm ≠ b133 := Nat.ne_of_lt (g133 ▸ E119_lm.lt)
  have ne_mk_a_b133 : mk_a ≠ b133 := Nat.ne_of_lt (g133 ▸ E123_mk_a.lt)
  have ne_ct_a_b133 : ct_a ≠ b133 := Nat.ne_of_lt (g133 ▸ V127_ct_a.lt)
  have ne_mk_b_b133 : mk_b ≠ b133 := Nat.ne_of_lt (g133 ▸ E128_mk_b.lt)
  have ne_ct_b_b133 : ct_b ≠ b133 := Nat.ne_of_lt (g133 ▸ V132_ct_b.lt)
  have ne_mk_q_b133 : mk_q ≠ b133 := Nat.ne_of_lt (g133 ▸ E118.lt)
  have ne_ct_q_b133 : ct_q ≠ b133 := Nat.ne_of_lt (g133 ▸ V118.lt)
  have E134_lm := E119_lm.ext E133
  have F135_times := F120_times.ext E133
  have S136_DEFAULT := S121_DEFAULT.ext E133
  have S137_FRACTIONS := S122_FRACTIONS.ext E133
  have E138_mk_a := E123_mk_a.ext E133
  have F139_marked := F124_marked.ext E133
  have F140_counts := F125_counts.ext E133
  have F141_markedCount := F126_markedCount.ext E133
  have V142_ct_a := V127_ct_a.ext E133
  have E143_mk_b := E128_mk_b.ext E133
  have F144_marked := F129_marked.ext E133
  have F145_counts := F130_counts.ext E133
  have F146_markedCount := F131_markedCount.ext E133
  have V147_ct_b := V132_ct_b.ext E133
  have E148_mk_q := E118.ext E133
  have F149_marked := F1118.ext E133
  have F150_counts := F2118.ext E133
  have F151_markedCount := F3118.ext E133
  have V152_ct_q := V118.ext E133
  replace hk := Nat.le_trans hk E133.1
  have Z133 : n0 ≤ h133.size := Nat.le_trans Z118 E133.1
  have n0_b133 : n0 ≤ b133 := g133 ▸ Z118
  rw [← g133] at A133 D133 st133
  refine own_step st133 ?_
  have F133_last : Fld Z h133 b133 "com/example/tracemass/tracemass/numbers/Work" "last" "Lcom/example/tracemass/tracemass/numbers/Work$Operands;" .null := D133 (Or.inl (own_w hw 77 rfl)) (ty := (.object "com/example/tracemass/tracemass/numbers/Work$Operands")) (by decide)
  have F133_limits : Fld Z h133 b133 "com/example/tracemass/tracemass/numbers/Work" "limits" "Lcom/example/tracemass/tracemass/numbers/Work$Limits;" .null := D133 (Or.inr (own_w hw 79 rfl)) (ty := (.object "com/example/tracemass/tracemass/numbers/Work$Limits")) (by decide)
  have F133_tooLarge : Fld Z h133 b133 "com/example/tracemass/tracemass/numbers/Work" "tooLarge" "Ljava/lang/String;" .null := D133 (Or.inr (own_w hw 81 rfl)) (ty := (.object "java/lang/String")) (by decide)
  have F133_comparisons : Fld Z h133 b133 "com/example/tracemass/tracemass/numbers/Work" "comparisons" "J" (.long (0 : Int64)) := D133 (Or.inl (own_w hw 204 rfl)) (ty := .long) (by decide)
  show GoP p e below Φ (T133.setTop (mkF m 95 #[.val (.int p1), .val (.int p2), .val (.int p3), .val (.int p4), .val (.int p5), .val (.int p6), .val (.int x0), .val (.int x1), .val (.int y0), .val (.int y1), .val (.int z0), .val (.int z1), .val (.ref mk_a), .val (.ref mk_b), .val (.ref mk_q), .unset, .unset, .unset, .unset, .unset, .unset] [(.ref b133)]))
  refine own_dup X133 hx hby at_95 rfl (pc' := 96) rfl ?_
  refine own_getS X133 hx hby hZ hown (host := "") (Or.inl (own_w hw 55 rfl)) Via.refl e133 S136_DEFAULT at_96 (pc' := 99) rfl ?_
  intro T153 X153 e153
  refine own_callIX X153 hx hby hZ (by exact hml) hown rfl (own_w hw 58 rfl) (own_w hw 59 rfl) (own_w hw 54 rfl) (own_w hw 60 rfl) (by decide) e153 1 (by decide) (by decide) (by decide) (by decide) (argsL := [(.ref lm)]) (rest := [(.ref b133)]) (lenOf pd__Lcom_example_tracemass_tracemass_numbers_Work_Limits__V rfl) rfl (Nat.le_of_eq rfl) (rmW1 l Z a0 hw b133 lm fr n0 h133 n0_b133 A133 F133_last F133_limits F133_tooLarge F133_comparisons S137_FRACTIONS) at_99 (pc' := 102) rfl hS hk (fun _ _ _ _ q => q) trivial ?_
  clear hS hk hZ hown
  intro v154 T154 L154 X154 hS hk hZ hown hge154 hQ154
  obtain ⟨rfl, Nq154, K154, E154, F1154, F2154⟩ := hQ154
  have E155_lm := E134_lm.keep K154
  have F156_times := F135_times.keep K154 (ninS ne_lm_b133 nin0)
  have E157_mk_a := E138_mk_a.keep K154
  have F158_marked := F139_marked.keep K154 (ninS ne_mk_a_b133 nin0)
  have F159_counts := F140_counts.keep K154 (ninS ne_mk_a_b133 nin0)
  have F160_markedCount := F141_markedCount.keep K154 (ninS ne_mk_a_b133 nin0)
  have V161_ct_a := V142_ct_a.keep K154 (ninS ne_ct_a_b133 nin0)
  have E162_mk_b := E143_mk_b.keep K154
  have F163_marked := F144_marked.keep K154 (ninS ne_mk_b_b133 nin0)
  have F164_counts := F145_counts.keep K154 (ninS ne_mk_b_b133 nin0)
  have F165_markedCount := F146_markedCount.keep K154 (ninS ne_mk_b_b133 nin0)
  have V166_ct_b := V147_ct_b.keep K154 (ninS ne_ct_b_b133 nin0)
  have E167_mk_q := E148_mk_q.keep K154
  have F168_marked := F149_marked.keep K154 (ninS ne_mk_q_b133 nin0)
  have F169_counts := F150_counts.keep K154 (ninS ne_mk_q_b133 nin0)
  have F170_markedCount := F151_markedCount.keep K154 (ninS ne_mk_q_b133 nin0)
  have V171_ct_q := V152_ct_q.keep K154 (ninS ne_ct_q_b133 nin0)
  have N154 := Fr.app N118 Nq154
  have Z154 : n0 ≤ T154.heap.size := Nat.le_trans Z133 K154.1
  show GoP p e below Φ (T154.setTop (mkF m 102 #[.val (.int p1), .val (.int p2), .val (.int p3), .val (.int p4), .val (.int p5), .val (.int p6), .val (.int x0), .val (.int x1), .val (.int y0), .val (.int y1), .val (.int z0), .val (.int z1), .val (.ref mk_a), .val (.ref mk_b), .val (.ref mk_q), .unset, .unset, .unset, .unset, .unset, .unset] [(.ref b133)]))
  refine own_astore X154 hx hby at_102 rfl (Ls' := #[.val (.int p1), .val (.int p2), .val (.int p3), .val (.int p4), .val (.int p5), .val (.int p6), .val (.int x0), .val (.int x1), .val (.int y0), .val (.int y1), .val (.int z0), .val (.int z1), .val (.ref mk_a), .val (.ref mk_b), .val (.ref mk_q), .val (.ref b133), .unset, .unset, .unset, .unset, .unset]) rfl (pc' := 104) rfl ?_
  obtain ⟨T174, h174, X174, e174, E174, A174, D174, -, st174⟩ := newO X154 hx hZ hown (own_w hw 82 rfl) (own_w hw 83 rfl) (own_w hw 84 rfl) rfl (g := (mkF m 104 #[.val (.int p1), .val (.int p2), .val (.int p3), .val (.int p4), .val (.int p5), .val (.int p6), .val (.int x0), .val (.int x1), .val (.int y0), .val (.int y1), .val (.int z0), .val (.int z1), .val (.ref mk_a), .val (.ref mk_b), .val (.ref mk_q), .val (.ref b133), .unset, .unset, .unset, .unset, .unset] [])) rfl (hb hby at_104) (by decide) (by decide)
  obtain ⟨b174, g174⟩ : ∃ z, z = T154.heap.size := ⟨_, rfl⟩
  have ne_lm_b174 : lm ≠ b174 := Nat.ne_of_lt (g174 ▸ E155_lm.lt)
  have ne_mk_a_b174 : mk_a ≠ b174 := Nat.ne_of_lt (g174 ▸ E157_mk_a.lt)
  have ne_ct_a_b174 : ct_a ≠ b174 := Nat.ne_of_lt (g174 ▸ V161_ct_a.lt)
  have ne_mk_b_b174 : mk_b ≠ b174 := Nat.ne_of_lt (g174 ▸ E162_mk_b.lt)
  have ne_ct_b_b174 : ct_b ≠ b174 := Nat.ne_of_lt (g174 ▸ V166_ct_b.lt)
  have ne_mk_q_b174 : mk_q ≠ b174 := Nat.ne_of_lt (g174 ▸ E167_mk_q.lt)
  have ne_ct_q_b174 : ct_q ≠ b174 := Nat.ne_of_lt (g174 ▸ V171_ct_q.lt)
  have ne_b133_b174 : b133 ≠ b174 := Nat.ne_of_lt (g174 ▸ E154.lt)
  have E175_lm := E155_lm.ext E174
  have F176_times := F156_times.ext E174
  have E177_mk_a := E157_mk_a.ext E174
  have F178_marked := F158_marked.ext E174
  have F179_counts := F159_counts.ext E174
  have F180_markedCount := F160_markedCount.ext E174
  have V181_ct_a := V161_ct_a.ext E174
  have E182_mk_b := E162_mk_b.ext E174
  have F183_marked := F163_marked.ext E174
  have F184_counts := F164_counts.ext E174
  have F185_markedCount := F165_markedCount.ext E174
  have V186_ct_b := V166_ct_b.ext E174
  have E187_mk_q := E167_mk_q.ext E174
  have F188_marked := F168_marked.ext E174
  have F189_counts := F169_counts.ext E174
  have F190_markedCount := F170_markedCount.ext E174
  have V191_ct_q := V171_ct_q.ext E174
  have E192_b133 := E154.ext E174
  have F193_limits := F1154.ext E174
  have F194_comparisons := F2154.ext E174
  replace hk := Nat.le_trans hk E174.1
  have Z174 : n0 ≤ h174.size := Nat.le_trans Z154 E174.1
  have n0_b174 : n0 ≤ b174 := g174 ▸ Z154
  rw [← g174] at A174 D174 st174
  refine own_step st174 ?_
  have F174_markings : Fld Z h174 b174 "com/example/tracemass/tracemass/qstates/SilentPath" "markings" "[Lcom/example/tracemass/tracemass/nets/Marking;" .null := D174 (Or.inl (own_w hw 92 rfl)) (ty := (.array (.object "com/example/tracemass/tracemass/nets/Marking"))) (by decide)
  have F174_fewest : Fld Z h174 b174 "com/example/tracemass/tracemass/qstates/SilentPath" "fewest" "[[[I" .null := D174 (Or.inl (own_w hw 96 rfl)) (ty := (.array (.array (.array .int)))) (by decide)
  have F174_fewestTotal : Fld Z h174 b174 "com/example/tracemass/tracemass/qstates/SilentPath" "fewestTotal" "[J" .null := D174 (Or.inl (own_w hw 99 rfl)) (ty := (.array .long)) (by decide)
  have F174_held : Fld Z h174 b174 "com/example/tracemass/tracemass/qstates/SilentPath" "held" "Lcom/example/tracemass/tracemass/qstates/SilentPath$Pairs;" .null := D174 (Or.inr (own_w hw 110 rfl)) (ty := (.object "com/example/tracemass/tracemass/qstates/SilentPath$Pairs")) (by decide)
  have F174_other : Fld Z h174 b174 "com/example/tracemass/tracemass/qstates/SilentPath" "other" "Lcom/example/tracemass/tracemass/qstates/SilentPath$Pairs;" .null := D174 (Or.inr (own_w hw 112 rfl)) (ty := (.object "com/example/tracemass/tracemass/qstates/SilentPath$Pairs")) (by decide)
  have F174_comparedCount : Fld Z h174 b174 "com/example/tracemass/tracemass/qstates/SilentPath" "comparedCount" "I" (.int (0 : Int32)) := D174 (Or.inr (own_w hw 114 rfl)) (ty := .int) (by decide)
  have F174_compared : Fld Z h174 b174 "com/example/tracemass/tracemass/qstates/SilentPath" "compared" "[Z" .null := D174 (Or.inr (own_w hw 121 rfl)) (ty := (.array .boolean)) (by decide)
  have F174_size : Fld Z h174 b174 "com/example/tracemass/tracemass/qstates/SilentPath" "size" "I" (.int (0 : Int32)) := D174 (Or.inl (own_w hw 131 rfl)) (ty := .int) (by decide)
  show GoP p e below Φ (T174.setTop (mkF m 107 #[.val (.int p1), .val (.int p2), .val (.int p3), .val (.int p4), .val (.int p5), .val (.int p6), .val (.int x0), .val (.int x1), .val (.int y0), .val (.int y1), .val (.int z0), .val (.int z1), .val (.ref mk_a), .val (.ref mk_b), .val (.ref mk_q), .val (.ref b133), .unset, .unset, .unset, .unset, .unset] [(.ref b174)]))
  refine own_dup X174 hx hby at_107 rfl (pc' := 108) rfl ?_
  refine own_iconst X174 hx hby at_108 (v := (2 : Int32)) rfl (pc' := 109) rfl ?_
  refine own_newI X174 hx hby hZ (own_w hw 1 rfl) e174 (by decide) 2 (by decide) (by decide) (by decide) (by decide) at_109 (pc' := 111) rfl ?_
  intro T195 h195 b195 X195 e195 E195 g195 V195 I195 A195
  have ne_lm_b195 : lm ≠ b195 := Nat.ne_of_lt (g195 ▸ E175_lm.lt)
  have ne_mk_a_b195 : mk_a ≠ b195 := Nat.ne_of_lt (g195 ▸ E177_mk_a.lt)
  have ne_ct_a_b195 : ct_a ≠ b195 := Nat.ne_of_lt (g195 ▸ V181_ct_a.lt)
  have ne_mk_b_b195 : mk_b ≠ b195 := Nat.ne_of_lt (g195 ▸ E182_mk_b.lt)
  have ne_ct_b_b195 : ct_b ≠ b195 := Nat.ne_of_lt (g195 ▸ V186_ct_b.lt)
  have ne_mk_q_b195 : mk_q ≠ b195 := Nat.ne_of_lt (g195 ▸ E187_mk_q.lt)
  have ne_ct_q_b195 : ct_q ≠ b195 := Nat.ne_of_lt (g195 ▸ V191_ct_q.lt)
  have ne_b133_b195 : b133 ≠ b195 := Nat.ne_of_lt (g195 ▸ E192_b133.lt)
  have ne_b174_b195 : b174 ≠ b195 := Nat.ne_of_lt (g195 ▸ A174.lt)
  have E196_lm := E175_lm.ext E195
  have F197_times := F176_times.ext E195
  have E198_mk_a := E177_mk_a.ext E195
  have F199_marked := F178_marked.ext E195
  have F200_counts := F179_counts.ext E195
  have F201_markedCount := F180_markedCount.ext E195
  have V202_ct_a := V181_ct_a.ext E195
  have E203_mk_b := E182_mk_b.ext E195
  have F204_marked := F183_marked.ext E195
  have F205_counts := F184_counts.ext E195
  have F206_markedCount := F185_markedCount.ext E195
  have V207_ct_b := V186_ct_b.ext E195
  have E208_mk_q := E187_mk_q.ext E195
  have F209_marked := F188_marked.ext E195
  have F210_counts := F189_counts.ext E195
  have F211_markedCount := F190_markedCount.ext E195
  have V212_ct_q := V191_ct_q.ext E195
  have E213_b133 := E192_b133.ext E195
  have F214_limits := F193_limits.ext E195
  have F215_comparisons := F194_comparisons.ext E195
  have E216_b174 := A174.ext E195
  have F217_markings := F174_markings.ext E195
  have F218_fewest := F174_fewest.ext E195
  have F219_fewestTotal := F174_fewestTotal.ext E195
  have F220_held := F174_held.ext E195
  have F221_other := F174_other.ext E195
  have F222_comparedCount := F174_comparedCount.ext E195
  have F223_compared := F174_compared.ext E195
  have F224_size := F174_size.ext E195
  replace hk := Nat.le_trans hk E195.1
  have Z195 : n0 ≤ h195.size := Nat.le_trans Z174 E195.1
  have n0_b195 : n0 ≤ b195 := g195 ▸ Z174
  replace V195 : AV Z h195 b195 .int [(.int (0 : Int32)), (.int (0 : Int32))] := V195
  show GoP p e below Φ (T195.setTop (mkF m 111 #[.val (.int p1), .val (.int p2), .val (.int p3), .val (.int p4), .val (.int p5), .val (.int p6), .val (.int x0), .val (.int x1), .val (.int y0), .val (.int y1), .val (.int z0), .val (.int z1), .val (.ref mk_a), .val (.ref mk_b), .val (.ref mk_q), .val (.ref b133), .unset, .unset, .unset, .unset, .unset] [(.ref b195), (.ref b174), (.ref b174)]))
  refine own_dup X195 hx hby at_111 rfl (pc' := 112) rfl ?_
  refine own_iconst X195 hx hby at_112 (v := (0 : Int32)) rfl (pc' := 113) rfl ?_
  refine own_iconst X195 hx hby at_113 (v := (0 : Int32)) rfl (pc' := 114) rfl ?_
  refine own_iastore X195 hx hby hZ e195 V195 (by decide) (Nat.le_of_ble_eq_true rfl) at_114 (pc' := 115) rfl ?_
  intro T225 h225 X225 e225 W225 V225
  replace V225 : AV Z h225 b195 .int [(.int (0 : Int32)), (.int (0 : Int32))] := V225
  have E226_lm := E196_lm.wr W225
  have F227_times := F197_times.other W225 (Or.inl ne_lm_b195)
  have E228_mk_a := E198_mk_a.wr W225
  have F229_marked := F199_marked.other W225 (Or.inl ne_mk_a_b195)
  have F230_counts := F200_counts.other W225 (Or.inl ne_mk_a_b195)
  have F231_markedCount := F201_markedCount.other W225 (Or.inl ne_mk_a_b195)
  have V232_ct_a := V202_ct_a.other W225 ne_ct_a_b195
  have E233_mk_b := E203_mk_b.wr W225
  have F234_marked := F204_marked.other W225 (Or.inl ne_mk_b_b195)
  have F235_counts := F205_counts.other W225 (Or.inl ne_mk_b_b195)
  have F236_markedCount := F206_markedCount.other W225 (Or.inl ne_mk_b_b195)
  have V237_ct_b := V207_ct_b.other W225 ne_ct_b_b195
  have E238_mk_q := E208_mk_q.wr W225
  have F239_marked := F209_marked.other W225 (Or.inl ne_mk_q_b195)
  have F240_counts := F210_counts.other W225 (Or.inl ne_mk_q_b195)
  have F241_markedCount := F211_markedCount.other W225 (Or.inl ne_mk_q_b195)
  have V242_ct_q := V212_ct_q.other W225 ne_ct_q_b195
  have E243_b133 := E213_b133.wr W225
  have F244_limits := F214_limits.other W225 (Or.inl ne_b133_b195)
  have F245_comparisons := F215_comparisons.other W225 (Or.inl ne_b133_b195)
  have E246_b174 := E216_b174.wr W225
  have F247_markings := F217_markings.other W225 (Or.inl ne_b174_b195)
  have F248_fewest := F218_fewest.other W225 (Or.inl ne_b174_b195)
  have F249_fewestTotal := F219_fewestTotal.other W225 (Or.inl ne_b174_b195)
  have F250_held := F220_held.other W225 (Or.inl ne_b174_b195)
  have F251_other := F221_other.other W225 (Or.inl ne_b174_b195)
  have F252_comparedCount := F222_comparedCount.other W225 (Or.inl ne_b174_b195)
  have F253_compared := F223_compared.other W225 (Or.inl ne_b174_b195)
  have F254_size := F224_size.other W225 (Or.inl ne_b174_b195)
  have E256_b195 := A195.wr W225
  replace hk := W225.size.symm ▸ hk
  have Z225 : n0 ≤ h225.size := by rw [W225.size]; exact Z195
  have N225 := Fr.snoc X225 N154 n0_b195
  refine own_dup X225 hx hby at_115 rfl (pc' := 116) rfl ?_
  refine own_iconst X225 hx hby at_116 (v := (1 : Int32)) rfl (pc' := 117) rfl ?_
  refine own_iconst X225 hx hby at_117 (v := (1 : Int32)) rfl (pc' := 118) rfl ?_
  refine own_iastore X225 hx hby hZ e225 V225 (by decide) (Nat.le_of_ble_eq_true rfl) at_118 (pc' := 119) rfl ?_
  intro T257 h257 X257 e257 W257 V257
  replace V257 : AV Z h257 b195 .int [(.int (0 : Int32)), (.int (1 : Int32))] := V257
  have E258_lm := E226_lm.wr W257
  have F259_times := F227_times.other W257 (Or.inl ne_lm_b195)
  have E260_mk_a := E228_mk_a.wr W257
  have F261_marked := F229_marked.other W257 (Or.inl ne_mk_a_b195)
  have F262_counts := F230_counts.other W257 (Or.inl ne_mk_a_b195)
  have F263_markedCount := F231_markedCount.other W257 (Or.inl ne_mk_a_b195)
  have V264_ct_a := V232_ct_a.other W257 ne_ct_a_b195
  have E265_mk_b := E233_mk_b.wr W257
  have F266_marked := F234_marked.other W257 (Or.inl ne_mk_b_b195)
  have F267_counts := F235_counts.other W257 (Or.inl ne_mk_b_b195)
  have F268_markedCount := F236_markedCount.other W257 (Or.inl ne_mk_b_b195)
  have V269_ct_b := V237_ct_b.other W257 ne_ct_b_b195
  have E270_mk_q := E238_mk_q.wr W257
  have F271_marked := F239_marked.other W257 (Or.inl ne_mk_q_b195)
  have F272_counts := F240_counts.other W257 (Or.inl ne_mk_q_b195)
  have F273_markedCount := F241_markedCount.other W257 (Or.inl ne_mk_q_b195)
  have V274_ct_q := V242_ct_q.other W257 ne_ct_q_b195
  have E275_b133 := E243_b133.wr W257
  have F276_limits := F244_limits.other W257 (Or.inl ne_b133_b195)
  have F277_comparisons := F245_comparisons.other W257 (Or.inl ne_b133_b195)
  have E278_b174 := E246_b174.wr W257
  have F279_markings := F247_markings.other W257 (Or.inl ne_b174_b195)
  have F280_fewest := F248_fewest.other W257 (Or.inl ne_b174_b195)
  have F281_fewestTotal := F249_fewestTotal.other W257 (Or.inl ne_b174_b195)
  have F282_held := F250_held.other W257 (Or.inl ne_b174_b195)
  have F283_other := F251_other.other W257 (Or.inl ne_b174_b195)
  have F284_comparedCount := F252_comparedCount.other W257 (Or.inl ne_b174_b195)
  have F285_compared := F253_compared.other W257 (Or.inl ne_b174_b195)
  have F286_size := F254_size.other W257 (Or.inl ne_b174_b195)
  have E288_b195 := E256_b195.wr W257
  replace hk := W257.size.symm ▸ hk
  have Z257 : n0 ≤ h257.size := by rw [W257.size]; exact Z225
  have N257 := Fr.snoc X257 N225 n0_b195
  refine own_callI X257 hx hby hZ (by exact hml) hown rfl (own_w hw 85 rfl) (own_w hw 86 rfl) (own_w hw 84 rfl) (own_w hw 87 rfl) (by decide) e257 1 (by decide) (by decide) (by decide) (by decide) (argsL := [(.ref b195)]) (rest := [(.ref b174)]) (lenOf pd___I_V rfl) rfl (Nat.le_of_eq rfl) (rmSP l Z a0 hw b174 b195 n0 h257 n0_b174 Z257 E278_b174 F279_markings F280_fewest F281_fewestTotal F282_held F283_other F284_comparedCount F285_compared F286_size V257) at_119 (pc' := 122) rfl ?_
  intro v289 T289 L289 X289 hQ289
  obtain ⟨rfl, Nq289, K289, mks, ft, hl, ot, cp, hv, ov, s_mks, s_ft, s_hl, s_ot, s_cp, s_hv, s_ov, ne_hl_ot, E289, P289_markings, P289_fewestTotal, P289_held, P289_other, P289_comparedCount, P289_compared, P289_size, Vs289, Ys289, Vt289, Vp289, E1289, F11289, F12289, V1289, E2289, F21289, F22289, V2289⟩ := hQ289
  have n0_mks : n0 ≤ mks := Nat.le_trans Z257 s_mks
  have ne_lm_mks : lm ≠ mks := Nat.ne_of_lt (Nat.lt_of_lt_of_le oL n0_mks)
  have n0_ft : n0 ≤ ft := Nat.le_trans Z257 s_ft
  have ne_lm_ft : lm ≠ ft := Nat.ne_of_lt (Nat.lt_of_lt_of_le oL n0_ft)
  have n0_hl : n0 ≤ hl := Nat.le_trans Z257 s_hl
  have ne_lm_hl : lm ≠ hl := Nat.ne_of_lt (Nat.lt_of_lt_of_le oL n0_hl)
  have n0_ot : n0 ≤ ot := Nat.le_trans Z257 s_ot
  have ne_lm_ot : lm ≠ ot := Nat.ne_of_lt (Nat.lt_of_lt_of_le oL n0_ot)
  have E290_lm := E258_lm.keep K289
  have F291_times := F259_times.keep K289 (ninS ne_lm_b174 nin0)
  have E292_mk_a := E260_mk_a.keep K289
  have F293_marked := F261_marked.keep K289 (ninS ne_mk_a_b174 nin0)
  have F294_counts := F262_counts.keep K289 (ninS ne_mk_a_b174 nin0)
  have F295_markedCount := F263_markedCount.keep K289 (ninS ne_mk_a_b174 nin0)
  have V296_ct_a := V264_ct_a.keep K289 (ninS ne_ct_a_b174 nin0)
  have E297_mk_b := E265_mk_b.keep K289
  have F298_marked := F266_marked.keep K289 (ninS ne_mk_b_b174 nin0)
  have F299_counts := F267_counts.keep K289 (ninS ne_mk_b_b174 nin0)
  have F300_markedCount := F268_markedCount.keep K289 (ninS ne_mk_b_b174 nin0)
  have V301_ct_b := V269_ct_b.keep K289 (ninS ne_ct_b_b174 nin0)
  have E302_mk_q := E270_mk_q.keep K289
  have F303_marked := F271_marked.keep K289 (ninS ne_mk_q_b174 nin0)
  have F304_counts := F272_counts.keep K289 (ninS ne_mk_q_b174 nin0)
  have F305_markedCount := F273_markedCount.keep K289 (ninS ne_mk_q_b174 nin0)
  have V306_ct_q := V274_ct_q.keep K289 (ninS ne_ct_q_b174 nin0)
  have E307_b133 := E275_b133.keep K289
  have F308_limits := F276_limits.keep K289 (ninS ne_b133_b174 nin0)
  have F309_comparisons := F277_comparisons.keep K289 (ninS ne_b133_b174 nin0)
  have N289 := Fr.app N257 Nq289
  have Z289 : n0 ≤ T289.heap.size := Nat.le_trans Z257 K289.1
  replace hk := Nat.le_trans hk K289.1
  show GoP p e below Φ (T289.setTop (mkF m 122 #[.val (.int p1), .val (.int p2), .val (.int p3), .val (.int p4), .val (.int p5), .val (.int p6), .val (.int x0), .val (.int x1), .val (.int y0), .val (.int y1), .val (.int z0), .val (.int z1), .val (.ref mk_a), .val (.ref mk_b), .val (.ref mk_q), .val (.ref b133), .unset, .unset, .unset, .unset, .unset] [(.ref b174)]))
  refine own_astore X289 hx hby at_122 rfl (Ls' := #[.val (.int p1), .val (.int p2), .val (.int p3), .val (.int p4), .val (.int p5), .val (.int p6), .val (.int x0), .val (.int x1), .val (.int y0), .val (.int y1), .val (.int z0), .val (.int z1), .val (.ref mk_a), .val (.ref mk_b), .val (.ref mk_q), .val (.ref b133), .val (.ref b174), .unset, .unset, .unset, .unset]) rfl (pc' := 124) rfl ?_
  refine own_aload X289 hx hby at_124 rfl rfl (pc' := 126) rfl ?_
  refine own_aload X289 hx hby at_126 rfl rfl (pc' := 128) rfl ?_
  refine own_callV X289 hx hby hZ (by exact hml) hown (own_w hw 125 rfl) (own_w hw 126 rfl) (own_w hw 128 rfl) (own_w hw 127 rfl) (own_w hw 84 rfl) (own_w hw 129 rfl) (by decide) rfl 0 (by decide) (by decide) (by decide) (by decide) (argsL := [(.ref mk_a)]) (rest := []) (lenOf pd__Lcom_example_tracemass_tracemass_nets_Marking__V rfl) rfl (Nat.le_of_eq rfl) E289 (rmAd0 l Z a0 hw b174 mks ft hl ot cp mk_a ct_a mv_a mc_a vs_a x0 x1 n0 T289.heap n0_b174 n0_ft n0_mks E289 P289_markings P289_fewestTotal P289_held P289_other P289_comparedCount P289_compared P289_size Vs289 Ys289 Vt289 Vp289 E292_mk_a F293_marked F294_counts F295_markedCount V296_ct_a hf_a) at_128 (pc' := 131) rfl ?_
  intro v311 T311 L311 X311 hQ311
  obtain ⟨rfl, Nq311, K311, P311_markings, P311_fewestTotal, P311_held, P311_other, P311_comparedCount, P311_compared, P311_size, Vs311, Vt311⟩ := hQ311
  have nt312 : mk_a ≠ ft := own_ne_av E292_mk_a (own_w hw 23 rfl) Vt289
  have nt313 : mk_a ≠ mks := own_ne_av E292_mk_a (own_w hw 23 rfl) Vs289
  have nt314 : ct_a ≠ ft := own_ne_av2 V296_ct_a Vt289 (by decide)
  have nt315 : ct_a ≠ mks := own_ne_av2 V296_ct_a Vs289 (by decide)
  have nt316 : mk_b ≠ ft := own_ne_av E297_mk_b (own_w hw 23 rfl) Vt289
  have nt317 : mk_b ≠ mks := own_ne_av E297_mk_b (own_w hw 23 rfl) Vs289
  have nt318 : ct_b ≠ ft := own_ne_av2 V301_ct_b Vt289 (by decide)
  have nt319 : ct_b ≠ mks := own_ne_av2 V301_ct_b Vs289 (by decide)
  have nt320 : mk_q ≠ ft := own_ne_av E302_mk_q (own_w hw 23 rfl) Vt289
  have nt321 : mk_q ≠ mks := own_ne_av E302_mk_q (own_w hw 23 rfl) Vs289
  have nt322 : ct_q ≠ ft := own_ne_av2 V306_ct_q Vt289 (by decide)
  have nt323 : ct_q ≠ mks := own_ne_av2 V306_ct_q Vs289 (by decide)
  have nt324 : b133 ≠ ft := own_ne_av E307_b133 (own_w hw 53 rfl) Vt289
  have nt325 : b133 ≠ mks := own_ne_av E307_b133 (own_w hw 53 rfl) Vs289
  have nt326 : b174 ≠ ft := own_ne_av E289 (own_w hw 83 rfl) Vt289
  have nt327 : b174 ≠ mks := own_ne_av E289 (own_w hw 83 rfl) Vs289
  have nt328 : mks ≠ ft := own_ne_av2 Vs289 Vt289 (by decide)
  have nt329 : cp ≠ b174 := (own_ne_av E289 (own_w hw 83 rfl) Vp289).symm
  have nt330 : cp ≠ ft := own_ne_av2 Vp289 Vt289 (by decide)
  have nt331 : cp ≠ mks := own_ne_av2 Vp289 Vs289 (by decide)
  have nt332 : hl ≠ b174 := Exa.ne E1289 E289 (by decide)
  have nt333 : hl ≠ ft := own_ne_av E1289 (own_w hw 101 rfl) Vt289
  have nt334 : hl ≠ mks := own_ne_av E1289 (own_w hw 101 rfl) Vs289
  have nt335 : hv ≠ b174 := (own_ne_av E289 (own_w hw 83 rfl) V1289).symm
  have nt336 : hv ≠ ft := own_ne_av2 V1289 Vt289 (by decide)
  have nt337 : hv ≠ mks := own_ne_av2 V1289 Vs289 (by decide)
  have nt338 : ot ≠ b174 := Exa.ne E2289 E289 (by decide)
  have nt339 : ot ≠ ft := own_ne_av E2289 (own_w hw 101 rfl) Vt289
  have nt340 : ot ≠ mks := own_ne_av E2289 (own_w hw 101 rfl) Vs289
  have nt341 : ov ≠ b174 := (own_ne_av E289 (own_w hw 83 rfl) V2289).symm
  have nt342 : ov ≠ ft := own_ne_av2 V2289 Vt289 (by decide)
  have nt343 : ov ≠ mks := own_ne_av2 V2289 Vs289 (by decide)
  have E344_lm := E290_lm.keep K311
  have F345_times := F291_times.keep K311 (ninS ne_lm_b174 (ninS ne_lm_ft (ninS ne_lm_mks nin0)))
  have E346_mk_a := E292_mk_a.keep K311
  have F347_marked := F293_marked.keep K311 (ninS ne_mk_a_b174 (ninS nt312 (ninS nt313 nin0)))
  have F348_counts := F294_counts.keep K311 (ninS ne_mk_a_b174 (ninS nt312 (ninS nt313 nin0)))
  have F349_markedCount := F295_markedCount.keep K311 (ninS ne_mk_a_b174 (ninS nt312 (ninS nt313 nin0)))
  have V350_ct_a := V296_ct_a.keep K311 (ninS ne_ct_a_b174 (ninS nt314 (ninS nt315 nin0)))
  have E351_mk_b := E297_mk_b.keep K311
  have F352_marked := F298_marked.keep K311 (ninS ne_mk_b_b174 (ninS nt316 (ninS nt317 nin0)))
  have F353_counts := F299_counts.keep K311 (ninS ne_mk_b_b174 (ninS nt316 (ninS nt317 nin0)))
  have F354_markedCount := F300_markedCount.keep K311 (ninS ne_mk_b_b174 (ninS nt316 (ninS nt317 nin0)))
  have V355_ct_b := V301_ct_b.keep K311 (ninS ne_ct_b_b174 (ninS nt318 (ninS nt319 nin0)))
  have E356_mk_q := E302_mk_q.keep K311
  have F357_marked := F303_marked.keep K311 (ninS ne_mk_q_b174 (ninS nt320 (ninS nt321 nin0)))
  have F358_counts := F304_counts.keep K311 (ninS ne_mk_q_b174 (ninS nt320 (ninS nt321 nin0)))
  have F359_markedCount := F305_markedCount.keep K311 (ninS ne_mk_q_b174 (ninS nt320 (ninS nt321 nin0)))
  have V360_ct_q := V306_ct_q.keep K311 (ninS ne_ct_q_b174 (ninS nt322 (ninS nt323 nin0)))
  have E361_b133 := E307_b133.keep K311
  have F362_limits := F308_limits.keep K311 (ninS ne_b133_b174 (ninS nt324 (ninS nt325 nin0)))
  have F363_comparisons := F309_comparisons.keep K311 (ninS ne_b133_b174 (ninS nt324 (ninS nt325 nin0)))
  have E364_b174 := E289.keep K311
  have Y365_mks := Ys289.keep K311
  have V366_cp := Vp289.keep K311 (ninS nt329 (ninS nt330 (ninS nt331 nin0)))
  have E367_hl := E1289.keep K311
  have F368_values := F11289.keep K311 (ninS nt332 (ninS nt333 (ninS nt334 nin0)))
  have F369_length := F12289.keep K311 (ninS nt332 (ninS nt333 (ninS nt334 nin0)))
  have V370_hv := V1289.keep K311 (ninS nt335 (ninS nt336 (ninS nt337 nin0)))
  have E371_ot := E2289.keep K311
  have F372_values := F21289.keep K311 (ninS nt338 (ninS nt339 (ninS nt340 nin0)))
  have F373_length := F22289.keep K311 (ninS nt338 (ninS nt339 (ninS nt340 nin0)))
  have V374_ov := V2289.keep K311 (ninS nt341 (ninS nt342 (ninS nt343 nin0)))
  have N311 := Fr.app N289 Nq311
  have Z311 : n0 ≤ T311.heap.size := Nat.le_trans Z289 K311.1
  replace hk := Nat.le_trans hk K311.1
  show GoP p e below Φ (T311.setTop (mkF m 131 #[.val (.int p1), .val (.int p2), .val (.int p3), .val (.int p4), .val (.int p5), .val (.int p6), .val (.int x0), .val (.int x1), .val (.int y0), .val (.int y1), .val (.int z0), .val (.int z1), .val (.ref mk_a), .val (.ref mk_b), .val (.ref mk_q), .val (.ref b133), .val (.ref b174), .unset, .unset, .unset, .unset] []))
  refine own_aload X311 hx hby at_131 rfl rfl (pc' := 133) rfl ?_
  refine own_aload X311 hx hby at_133 rfl rfl (pc' := 135) rfl ?_
  refine own_callV X311 hx hby hZ (by exact hml) hown (own_w hw 125 rfl) (own_w hw 126 rfl) (own_w hw 128 rfl) (own_w hw 127 rfl) (own_w hw 84 rfl) (own_w hw 129 rfl) (by decide) rfl 0 (by decide) (by decide) (by decide) (by decide) (argsL := [(.ref mk_b)]) (rest := []) (lenOf pd__Lcom_example_tracemass_tracemass_nets_Marking__V rfl) rfl (Nat.le_of_eq rfl) E364_b174 (rmAd1 l Z a0 hw b174 mks ft hl ot cp mk_a mk_b ct_b mv_b mc_b vs_b y0 y1 (own_tot x0 x1) n0 T311.heap n0_b174 n0_ft n0_mks E364_b174 P311_markings P311_fewestTotal P311_held P311_other P311_comparedCount P311_compared P311_size Vs311 Y365_mks Vt311 V366_cp E351_mk_b F352_marked F353_counts F354_markedCount V355_ct_b hf_b) at_135 (pc' := 138) rfl ?_
  intro v375 T375 L375 X375 hQ375
  obtain ⟨rr, rfl, Nq375, K375, P375_markings, P375_fewestTotal, P375_held, P375_other, P375_comparedCount, P375_compared, P375_size, Vs375, Vt375⟩ := hQ375
  have E376_lm := E344_lm.keep K375
  have F377_times := F345_times.keep K375 (ninS ne_lm_b174 (ninS ne_lm_ft (ninS ne_lm_mks nin0)))
  have E378_mk_a := E346_mk_a.keep K375
  have F379_marked := F347_marked.keep K375 (ninS ne_mk_a_b174 (ninS nt312 (ninS nt313 nin0)))
  have F380_counts := F348_counts.keep K375 (ninS ne_mk_a_b174 (ninS nt312 (ninS nt313 nin0)))
  have F381_markedCount := F349_markedCount.keep K375 (ninS ne_mk_a_b174 (ninS nt312 (ninS nt313 nin0)))
  have V382_ct_a := V350_ct_a.keep K375 (ninS ne_ct_a_b174 (ninS nt314 (ninS nt315 nin0)))
  have E383_mk_b := E351_mk_b.keep K375
  have F384_marked := F352_marked.keep K375 (ninS ne_mk_b_b174 (ninS nt316 (ninS nt317 nin0)))
  have F385_counts := F353_counts.keep K375 (ninS ne_mk_b_b174 (ninS nt316 (ninS nt317 nin0)))
  have F386_markedCount := F354_markedCount.keep K375 (ninS ne_mk_b_b174 (ninS nt316 (ninS nt317 nin0)))
  have V387_ct_b := V355_ct_b.keep K375 (ninS ne_ct_b_b174 (ninS nt318 (ninS nt319 nin0)))
  have E388_mk_q := E356_mk_q.keep K375
  have F389_marked := F357_marked.keep K375 (ninS ne_mk_q_b174 (ninS nt320 (ninS nt321 nin0)))
  have F390_counts := F358_counts.keep K375 (ninS ne_mk_q_b174 (ninS nt320 (ninS nt321 nin0)))
  have F391_markedCount := F359_markedCount.keep K375 (ninS ne_mk_q_b174 (ninS nt320 (ninS nt321 nin0)))
  have V392_ct_q := V360_ct_q.keep K375 (ninS ne_ct_q_b174 (ninS nt322 (ninS nt323 nin0)))
  have E393_b133 := E361_b133.keep K375
  have F394_limits := F362_limits.keep K375 (ninS ne_b133_b174 (ninS nt324 (ninS nt325 nin0)))
  have F395_comparisons := F363_comparisons.keep K375 (ninS ne_b133_b174 (ninS nt324 (ninS nt325 nin0)))
  have E396_b174 := E364_b174.keep K375
  have Y397_mks := Y365_mks.keep K375
  have V398_cp := V366_cp.keep K375 (ninS nt329 (ninS nt330 (ninS nt331 nin0)))
  have E399_hl := E367_hl.keep K375
  have F400_values := F368_values.keep K375 (ninS nt332 (ninS nt333 (ninS nt334 nin0)))
  have F401_length := F369_length.keep K375 (ninS nt332 (ninS nt333 (ninS nt334 nin0)))
  have V402_hv := V370_hv.keep K375 (ninS nt335 (ninS nt336 (ninS nt337 nin0)))
  have E403_ot := E371_ot.keep K375
  have F404_values := F372_values.keep K375 (ninS nt338 (ninS nt339 (ninS nt340 nin0)))
  have F405_length := F373_length.keep K375 (ninS nt338 (ninS nt339 (ninS nt340 nin0)))
  have V406_ov := V374_ov.keep K375 (ninS nt341 (ninS nt342 (ninS nt343 nin0)))
  have N375 := Fr.app N311 Nq375
  have Z375 : n0 ≤ T375.heap.size := Nat.le_trans Z311 K375.1
  replace hk := Nat.le_trans hk K375.1
  show GoP p e below Φ (T375.setTop (mkF m 138 #[.val (.int p1), .val (.int p2), .val (.int p3), .val (.int p4), .val (.int p5), .val (.int p6), .val (.int x0), .val (.int x1), .val (.int y0), .val (.int y1), .val (.int z0), .val (.int z1), .val (.ref mk_a), .val (.ref mk_b), .val (.ref mk_q), .val (.ref b133), .val (.ref b174), .unset, .unset, .unset, .unset] []))
  refine own_aload X375 hx hby at_138 rfl rfl (pc' := 140) rfl ?_
  refine own_callV X375 hx hby hZ (by exact hml) hown (own_w hw 155 rfl) (own_w hw 156 rfl) (own_w hw 158 rfl) (own_w hw 157 rfl) (own_w hw 84 rfl) (own_w hw 159 rfl) (by decide) rfl 0 (by decide) (by decide) (by decide) (by decide) (argsL := []) (rest := []) (lenOf pd___V rfl) rfl (Nat.le_of_eq rfl) E396_b174 (rmRl2 l Z a0 hw b174 mks ft hl ot cp mk_a mk_b n0 T375.heap n0_b174 n0_mks E396_b174 P375_markings P375_fewestTotal P375_held P375_other P375_comparedCount P375_compared P375_size Vs375) at_140 (pc' := 143) rfl ?_
  intro v407 T407 L407 X407 hQ407
  obtain ⟨rfl, Nq407, K407, P407_markings, P407_fewestTotal, P407_held, P407_other, P407_comparedCount, P407_compared, P407_size, Vs407⟩ := hQ407
  have E408_lm := E376_lm.keep K407
  have F409_times := F377_times.keep K407 (ninS ne_lm_b174 (ninS ne_lm_mks nin0))
  have E410_mk_a := E378_mk_a.keep K407
  have F411_marked := F379_marked.keep K407 (ninS ne_mk_a_b174 (ninS nt313 nin0))
  have F412_counts := F380_counts.keep K407 (ninS ne_mk_a_b174 (ninS nt313 nin0))
  have F413_markedCount := F381_markedCount.keep K407 (ninS ne_mk_a_b174 (ninS nt313 nin0))
  have V414_ct_a := V382_ct_a.keep K407 (ninS ne_ct_a_b174 (ninS nt315 nin0))
  have E415_mk_b := E383_mk_b.keep K407
  have F416_marked := F384_marked.keep K407 (ninS ne_mk_b_b174 (ninS nt317 nin0))
  have F417_counts := F385_counts.keep K407 (ninS ne_mk_b_b174 (ninS nt317 nin0))
  have F418_markedCount := F386_markedCount.keep K407 (ninS ne_mk_b_b174 (ninS nt317 nin0))
  have V419_ct_b := V387_ct_b.keep K407 (ninS ne_ct_b_b174 (ninS nt319 nin0))
  have E420_mk_q := E388_mk_q.keep K407
  have F421_marked := F389_marked.keep K407 (ninS ne_mk_q_b174 (ninS nt321 nin0))
  have F422_counts := F390_counts.keep K407 (ninS ne_mk_q_b174 (ninS nt321 nin0))
  have F423_markedCount := F391_markedCount.keep K407 (ninS ne_mk_q_b174 (ninS nt321 nin0))
  have V424_ct_q := V392_ct_q.keep K407 (ninS ne_ct_q_b174 (ninS nt323 nin0))
  have E425_b133 := E393_b133.keep K407
  have F426_limits := F394_limits.keep K407 (ninS ne_b133_b174 (ninS nt325 nin0))
  have F427_comparisons := F395_comparisons.keep K407 (ninS ne_b133_b174 (ninS nt325 nin0))
  have E428_b174 := E396_b174.keep K407
  have Y429_mks := Y397_mks.keep K407
  have V430_ft := Vt375.keep K407 (ninS (Ne.symm nt326) (ninS (Ne.symm nt328) nin0))
  have V431_cp := V398_cp.keep K407 (ninS nt329 (ninS nt331 nin0))
  have E432_hl := E399_hl.keep K407
  have F433_values := F400_values.keep K407 (ninS nt332 (ninS nt334 nin0))
  have F434_length := F401_length.keep K407 (ninS nt332 (ninS nt334 nin0))
  have V435_hv := V402_hv.keep K407 (ninS nt335 (ninS nt337 nin0))
  have E436_ot := E403_ot.keep K407
  have F437_values := F404_values.keep K407 (ninS nt338 (ninS nt340 nin0))
  have F438_length := F405_length.keep K407 (ninS nt338 (ninS nt340 nin0))
  have V439_ov := V406_ov.keep K407 (ninS nt341 (ninS nt343 nin0))
  have N407 := Fr.app N375 Nq407
  have Z407 : n0 ≤ T407.heap.size := Nat.le_trans Z375 K407.1
  replace hk := Nat.le_trans hk K407.1
  show GoP p e below Φ (T407.setTop (mkF m 143 #[.val (.int p1), .val (.int p2), .val (.int p3), .val (.int p4), .val (.int p5), .val (.int p6), .val (.int x0), .val (.int x1), .val (.int y0), .val (.int y1), .val (.int z0), .val (.int z1), .val (.ref mk_a), .val (.ref mk_b), .val (.ref mk_q), .val (.ref b133), .val (.ref b174), .unset, .unset, .unset, .unset] []))
  refine own_aload X407 hx hby at_143 rfl rfl (pc' := 145) rfl ?_
  refine own_aload X407 hx hby at_145 rfl rfl (pc' := 147) rfl ?_
  refine own_aload X407 hx hby at_147 rfl rfl (pc' := 149) rfl ?_
  refine own_callV X407 hx hby hZ (by exact hml) hown (own_w hw 160 rfl) (own_w hw 161 rfl) (own_w hw 163 rfl) (own_w hw 162 rfl) (own_w hw 84 rfl) (own_w hw 164 rfl) (by decide) rfl 0 (by decide) (by decide) (by decide) (by decide) (argsL := [(.ref mk_q), (.ref b133)]) (rest := []) (lenOf pd__Lcom_example_tracemass_tracemass_nets_Marking_Lcom_example_tracemass_tracemass_numbers_Work__Lcom_example_tracemass_tracemass_nets_Marking_ rfl) rfl (Nat.le_of_eq rfl) E428_b174 (rmL1 l Z a0 hw b174 mks ft hl ot cp hv ov b133 lm mk_a ct_a mk_q ct_q mv_a mv_q mc_a mc_q vs_a vs_q x0 x1 z0 z1 rr n0 T407.heap nz0 nz1 n0_hl n0_ot n0_b133 Z407 ne_hl_ot E428_b174 P407_markings P407_fewestTotal P407_held P407_other P407_comparedCount P407_compared P407_size Vs407 V430_ft V431_cp E432_hl F433_values F434_length V435_hv E436_ot F437_values F438_length V439_ov E425_b133 F426_limits F427_comparisons E408_lm F409_times E410_mk_a F411_marked F412_counts F413_markedCount V414_ct_a hf_a E420_mk_q F421_marked F422_counts F423_markedCount V424_ct_q hf_q) at_149 (pc' := 152) rfl ?_
  intro v440 T440 L440 X440 hQ440
  obtain ⟨hv440, Nq440, K440⟩ := hQ440
  rcases hv440 with ⟨rfl, hcd⟩ | ⟨rfl, hcd⟩
  · have E441_b133 := E425_b133.keep K440
    have E442_b174 := E428_b174.keep K440
    have F443_markings := P407_markings.keep K440 (ninS (Ne.symm nt332) (ninS (Ne.symm nt338) (ninS (Ne.symm ne_b133_b174) nin0)))
    have F444_fewestTotal := P407_fewestTotal.keep K440 (ninS (Ne.symm nt332) (ninS (Ne.symm nt338) (ninS (Ne.symm ne_b133_b174) nin0)))
    have F445_held := P407_held.keep K440 (ninS (Ne.symm nt332) (ninS (Ne.symm nt338) (ninS (Ne.symm ne_b133_b174) nin0)))
    have F446_other := P407_other.keep K440 (ninS (Ne.symm nt332) (ninS (Ne.symm nt338) (ninS (Ne.symm ne_b133_b174) nin0)))
    have F447_comparedCount := P407_comparedCount.keep K440 (ninS (Ne.symm nt332) (ninS (Ne.symm nt338) (ninS (Ne.symm ne_b133_b174) nin0)))
    have F448_compared := P407_compared.keep K440 (ninS (Ne.symm nt332) (ninS (Ne.symm nt338) (ninS (Ne.symm ne_b133_b174) nin0)))
    have F449_size := P407_size.keep K440 (ninS (Ne.symm nt332) (ninS (Ne.symm nt338) (ninS (Ne.symm ne_b133_b174) nin0)))
    have V450_mks := Vs407.keep K440 (ninS (Ne.symm nt334) (ninS (Ne.symm nt340) (ninS (Ne.symm nt325) nin0)))
    have E451_hl := E432_hl.keep K440
    have E452_ot := E436_ot.keep K440
    have N440 := Fr.app N407 Nq440
    have Z440 : n0 ≤ T440.heap.size := Nat.le_trans Z407 K440.1
    replace hk := Nat.le_trans hk K440.1
    show GoP p e below Φ (T440.setTop (mkF m 152 #[.val (.int p1), .val (.int p2), .val (.int p3), .val (.int p4), .val (.int p5), .val (.int p6), .val (.int x0), .val (.int x1), .val (.int y0), .val (.int y1), .val (.int z0), .val (.int z1), .val (.ref mk_a), .val (.ref mk_b), .val (.ref mk_q), .val (.ref b133), .val (.ref b174), .unset, .unset, .unset, .unset] [(.ref mk_a)]))
    refine own_astore X440 hx hby at_152 rfl (Ls' := #[.val (.int p1), .val (.int p2), .val (.int p3), .val (.int p4), .val (.int p5), .val (.int p6), .val (.int x0), .val (.int x1), .val (.int y0), .val (.int y1), .val (.int z0), .val (.int z1), .val (.ref mk_a), .val (.ref mk_b), .val (.ref mk_q), .val (.ref b133), .val (.ref b174), .val (.ref mk_a), .unset, .unset, .unset]) rfl (pc' := 154) rfl ?_
    refine own_iload X440 hx hby at_154 rfl (pc' := 156) rfl ?_
    refine own_iload X440 hx hby at_156 rfl (pc' := 158) rfl ?_
    refine own_icmpN X440 hx hby at_158 (flt hcd.1).1 (pc' := 161) rfl ?_
    refine own_iload X440 hx hby at_161 rfl (pc' := 163) rfl ?_
    refine own_iload X440 hx hby at_163 rfl (pc' := 165) rfl ?_
    refine own_icmpN X440 hx hby at_165 (flt hcd.2.1).1 (pc' := 168) rfl ?_
    refine own_iload X440 hx hby at_168 rfl (pc' := 170) rfl ?_
    refine own_i2l X440 hx hby at_170 (pc' := 171) rfl ?_
    refine own_iload X440 hx hby at_171 rfl (pc' := 173) rfl ?_
    refine own_i2l X440 hx hby at_173 (pc' := 174) rfl ?_
    refine own_ladd X440 hx hby at_174 (pc' := 175) rfl ?_
    refine own_iload X440 hx hby at_175 rfl (pc' := 177) rfl ?_
    refine own_i2l X440 hx hby at_177 (pc' := 178) rfl ?_
    refine own_iload X440 hx hby at_178 rfl (pc' := 180) rfl ?_
    refine own_i2l X440 hx hby at_180 (pc' := 181) rfl ?_
    refine own_ladd X440 hx hby at_181 (pc' := 182) rfl ?_
    refine own_lcmp X440 hx hby at_182 (pc' := 183) rfl ?_
    refine own_ifN X440 hx hby at_183 ((if0 _ _).trans (tlt ((lw_gt _ _).mpr hcd.2.2)).2.2.2) (pc' := 186) rfl ?_
    refine own_iconst X440 hx hby at_186 (v := (1 : Int32)) rfl (pc' := 187) rfl ?_
    refine own_goto X440 hx hby at_187 (by decide) (pc' := 191) (by decide) ?_
    refine own_istore X440 hx hby at_191  (Ls' := #[.val (.int p1), .val (.int p2), .val (.int p3), .val (.int p4), .val (.int p5), .val (.int p6), .val (.int x0), .val (.int x1), .val (.int y0), .val (.int y1), .val (.int z0), .val (.int z1), .val (.ref mk_a), .val (.ref mk_b), .val (.ref mk_q), .val (.ref b133), .val (.ref b174), .val (.ref mk_a), .val (.int (1 : Int32)), .unset, .unset]) rfl (pc' := 193) rfl ?_
    refine own_iload X440 hx hby at_193 rfl (pc' := 195) rfl ?_
    refine own_ifN X440 hx hby at_195 ((if0 _ _).trans (feq (by decide)).1) (pc' := 198) rfl ?_
    refine own_aload X440 hx hby at_198 rfl rfl (pc' := 200) rfl ?_
    refine own_aload X440 hx hby at_200 rfl rfl (pc' := 202) rfl ?_
    refine own_acmp X440 hx hby at_202 rfl rfl (same := true) (decide_eq_true (congrArg Value.ref rfl)) (by decide) (pc' := 205) (by decide) ?_
    refine own_iconst X440 hx hby at_205 (v := (1 : Int32)) rfl (pc' := 206) rfl ?_
    refine own_goto X440 hx hby at_206 (by decide) (pc' := 223) (by decide) ?_
    refine own_istore X440 hx hby at_223  (Ls' := #[.val (.int p1), .val (.int p2), .val (.int p3), .val (.int p4), .val (.int p5), .val (.int p6), .val (.int x0), .val (.int x1), .val (.int y0), .val (.int y1), .val (.int z0), .val (.int z1), .val (.ref mk_a), .val (.ref mk_b), .val (.ref mk_q), .val (.ref b133), .val (.ref b174), .val (.ref mk_a), .val (.int (1 : Int32)), .val (.int (1 : Int32)), .unset]) rfl (pc' := 225) rfl ?_
    refine own_aload X440 hx hby at_225 rfl rfl (pc' := 227) rfl ?_
    refine own_callV X440 hx hby hZ (by exact hml) hown (own_w hw 155 rfl) (own_w hw 156 rfl) (own_w hw 158 rfl) (own_w hw 157 rfl) (own_w hw 84 rfl) (own_w hw 159 rfl) (by decide) rfl 0 (by decide) (by decide) (by decide) (by decide) (argsL := []) (rest := []) (lenOf pd___V rfl) rfl (Nat.le_of_eq rfl) E442_b174 (rmRl1 l Z a0 hw b174 mks ft hl ot cp mk_a n0 T440.heap n0_b174 n0_mks E442_b174 F443_markings F444_fewestTotal F445_held F446_other F447_comparedCount F448_compared F449_size V450_mks) at_227 (pc' := 230) rfl ?_
    intro v453 T453 L453 X453 hQ453
    obtain ⟨rfl, Nq453, K453, P453_markings, P453_fewestTotal, P453_held, P453_other, P453_comparedCount, P453_compared, P453_size, Vs453⟩ := hQ453
    have E454_b133 := E441_b133.keep K453
    have E455_b174 := E442_b174.keep K453
    have E456_hl := E451_hl.keep K453
    have E457_ot := E452_ot.keep K453
    have N453 := Fr.app N440 Nq453
    have Z453 : n0 ≤ T453.heap.size := Nat.le_trans Z440 K453.1
    replace hk := Nat.le_trans hk K453.1
    show GoP p e below Φ (T453.setTop (mkF m 230 #[.val (.int p1), .val (.int p2), .val (.int p3), .val (.int p4), .val (.int p5), .val (.int p6), .val (.int x0), .val (.int x1), .val (.int y0), .val (.int y1), .val (.int z0), .val (.int z1), .val (.ref mk_a), .val (.ref mk_b), .val (.ref mk_q), .val (.ref b133), .val (.ref b174), .val (.ref mk_a), .val (.int (1 : Int32)), .val (.int (1 : Int32)), .unset] []))
    refine own_aload X453 hx hby at_230 rfl rfl (pc' := 232) rfl ?_
    refine own_aload X453 hx hby at_232 rfl rfl (pc' := 234) rfl ?_
    refine own_aload X453 hx hby at_234 rfl rfl (pc' := 236) rfl ?_
    refine own_callV X453 hx hby hZ (by exact hml) hown (own_w hw 160 rfl) (own_w hw 161 rfl) (own_w hw 163 rfl) (own_w hw 162 rfl) (own_w hw 84 rfl) (own_w hw 164 rfl) (by decide) rfl 0 (by decide) (by decide) (by decide) (by decide) (argsL := [(.ref mk_q), (.ref b133)]) (rest := []) (lenOf pd__Lcom_example_tracemass_tracemass_nets_Marking_Lcom_example_tracemass_tracemass_numbers_Work__Lcom_example_tracemass_tracemass_nets_Marking_ rfl) rfl (Nat.le_of_eq rfl) E455_b174 (rmL0 l Z a0 hw b174 mk_q b133 T453.heap P453_size) at_236 (pc' := 239) rfl ?_
    intro v458 T458 L458 X458 hQ458
    obtain ⟨rfl, rfl, e458⟩ := hQ458
    rw [List.append_nil] at X458
    replace e458 : T458.heap = T453.heap := e458
    show GoP p e below Φ (T458.setTop (mkF m 239 #[.val (.int p1), .val (.int p2), .val (.int p3), .val (.int p4), .val (.int p5), .val (.int p6), .val (.int x0), .val (.int x1), .val (.int y0), .val (.int y1), .val (.int z0), .val (.int z1), .val (.ref mk_a), .val (.ref mk_b), .val (.ref mk_q), .val (.ref b133), .val (.ref b174), .val (.ref mk_a), .val (.int (1 : Int32)), .val (.int (1 : Int32)), .unset] [.null]))
    refine own_astore X458 hx hby at_239 rfl (Ls' := #[.val (.int p1), .val (.int p2), .val (.int p3), .val (.int p4), .val (.int p5), .val (.int p6), .val (.int x0), .val (.int x1), .val (.int y0), .val (.int y1), .val (.int z0), .val (.int z1), .val (.ref mk_a), .val (.ref mk_b), .val (.ref mk_q), .val (.ref b133), .val (.ref b174), .val (.ref mk_a), .val (.int (1 : Int32)), .val (.int (1 : Int32)), .val .null]) rfl (pc' := 241) rfl ?_
    refine own_iload X458 hx hby at_241 rfl (pc' := 243) rfl ?_
    refine own_ifN X458 hx hby at_243 ((if0 _ _).trans (feq (by decide)).1) (pc' := 246) rfl ?_
    refine own_aload X458 hx hby at_246 rfl rfl (pc' := 248) rfl ?_
    refine own_ifnonnullN X458 hx hby at_248 (pc' := 251) rfl ?_
    refine own_iconst X458 hx hby at_251 (v := (1 : Int32)) rfl (pc' := 252) rfl ?_
    refine own_goto X458 hx hby at_252 (by decide) (pc' := 256) (by decide) ?_
    exact own_retN X458 hx hby (fin _ _ hS) hret (by simp) rfl at_256 (by decide) (by decide) ⟨⟨rfl, N453⟩, (by rw [e458]; exact hk)⟩
  · have E459_b133 := E425_b133.keep K440
    have E460_b174 := E428_b174.keep K440
    have F461_markings := P407_markings.keep K440 (ninS (Ne.symm nt332) (ninS (Ne.symm nt338) (ninS (Ne.symm ne_b133_b174) nin0)))
    have F462_fewestTotal := P407_fewestTotal.keep K440 (ninS (Ne.symm nt332) (ninS (Ne.symm nt338) (ninS (Ne.symm ne_b133_b174) nin0)))
    have F463_held := P407_held.keep K440 (ninS (Ne.symm nt332) (ninS (Ne.symm nt338) (ninS (Ne.symm ne_b133_b174) nin0)))
    have F464_other := P407_other.keep K440 (ninS (Ne.symm nt332) (ninS (Ne.symm nt338) (ninS (Ne.symm ne_b133_b174) nin0)))
    have F465_comparedCount := P407_comparedCount.keep K440 (ninS (Ne.symm nt332) (ninS (Ne.symm nt338) (ninS (Ne.symm ne_b133_b174) nin0)))
    have F466_compared := P407_compared.keep K440 (ninS (Ne.symm nt332) (ninS (Ne.symm nt338) (ninS (Ne.symm ne_b133_b174) nin0)))
    have F467_size := P407_size.keep K440 (ninS (Ne.symm nt332) (ninS (Ne.symm nt338) (ninS (Ne.symm ne_b133_b174) nin0)))
    have V468_mks := Vs407.keep K440 (ninS (Ne.symm nt334) (ninS (Ne.symm nt340) (ninS (Ne.symm nt325) nin0)))
    have E469_hl := E432_hl.keep K440
    have E470_ot := E436_ot.keep K440
    have N440 := Fr.app N407 Nq440
    have Z440 : n0 ≤ T440.heap.size := Nat.le_trans Z407 K440.1
    replace hk := Nat.le_trans hk K440.1
    show GoP p e below Φ (T440.setTop (mkF m 152 #[.val (.int p1), .val (.int p2), .val (.int p3), .val (.int p4), .val (.int p5), .val (.int p6), .val (.int x0), .val (.int x1), .val (.int y0), .val (.int y1), .val (.int z0), .val (.int z1), .val (.ref mk_a), .val (.ref mk_b), .val (.ref mk_q), .val (.ref b133), .val (.ref b174), .unset, .unset, .unset, .unset] [.null]))
    refine own_astore X440 hx hby at_152 rfl (Ls' := #[.val (.int p1), .val (.int p2), .val (.int p3), .val (.int p4), .val (.int p5), .val (.int p6), .val (.int x0), .val (.int x1), .val (.int y0), .val (.int y1), .val (.int z0), .val (.int z1), .val (.ref mk_a), .val (.ref mk_b), .val (.ref mk_q), .val (.ref b133), .val (.ref b174), .val .null, .unset, .unset, .unset]) rfl (pc' := 154) rfl ?_
    refine own_iload X440 hx hby at_154 rfl (pc' := 156) rfl ?_
    refine own_iload X440 hx hby at_156 rfl (pc' := 158) rfl ?_
    by_cases hc158_471 : z0 < x0
    · refine own_icmpY X440 hx hby at_158 (tlt hc158_471).1 (by decide) (pc' := 190) (by decide) ?_
      refine own_iconst X440 hx hby at_190 (v := (0 : Int32)) rfl (pc' := 191) rfl ?_
      refine own_istore X440 hx hby at_191  (Ls' := #[.val (.int p1), .val (.int p2), .val (.int p3), .val (.int p4), .val (.int p5), .val (.int p6), .val (.int x0), .val (.int x1), .val (.int y0), .val (.int y1), .val (.int z0), .val (.int z1), .val (.ref mk_a), .val (.ref mk_b), .val (.ref mk_q), .val (.ref b133), .val (.ref b174), .val .null, .val (.int (0 : Int32)), .unset, .unset]) rfl (pc' := 193) rfl ?_
      refine own_iload X440 hx hby at_193 rfl (pc' := 195) rfl ?_
      refine own_ifY X440 hx hby at_195 ((if0 _ _).trans (teq (by decide)).1) (by decide) (pc' := 213) (by decide) ?_
      refine own_aload X440 hx hby at_213 rfl rfl (pc' := 215) rfl ?_
      refine own_ifnonnullN X440 hx hby at_215 (pc' := 218) rfl ?_
      refine own_iconst X440 hx hby at_218 (v := (1 : Int32)) rfl (pc' := 219) rfl ?_
      refine own_goto X440 hx hby at_219 (by decide) (pc' := 223) (by decide) ?_
      refine own_istore X440 hx hby at_223  (Ls' := #[.val (.int p1), .val (.int p2), .val (.int p3), .val (.int p4), .val (.int p5), .val (.int p6), .val (.int x0), .val (.int x1), .val (.int y0), .val (.int y1), .val (.int z0), .val (.int z1), .val (.ref mk_a), .val (.ref mk_b), .val (.ref mk_q), .val (.ref b133), .val (.ref b174), .val .null, .val (.int (0 : Int32)), .val (.int (1 : Int32)), .unset]) rfl (pc' := 225) rfl ?_
      refine own_aload X440 hx hby at_225 rfl rfl (pc' := 227) rfl ?_
      refine own_callV X440 hx hby hZ (by exact hml) hown (own_w hw 155 rfl) (own_w hw 156 rfl) (own_w hw 158 rfl) (own_w hw 157 rfl) (own_w hw 84 rfl) (own_w hw 159 rfl) (by decide) rfl 0 (by decide) (by decide) (by decide) (by decide) (argsL := []) (rest := []) (lenOf pd___V rfl) rfl (Nat.le_of_eq rfl) E460_b174 (rmRl1 l Z a0 hw b174 mks ft hl ot cp mk_a n0 T440.heap n0_b174 n0_mks E460_b174 F461_markings F462_fewestTotal F463_held F464_other F465_comparedCount F466_compared F467_size V468_mks) at_227 (pc' := 230) rfl ?_
      intro v472 T472 L472 X472 hQ472
      obtain ⟨rfl, Nq472, K472, P472_markings, P472_fewestTotal, P472_held, P472_other, P472_comparedCount, P472_compared, P472_size, Vs472⟩ := hQ472
      have E473_b133 := E459_b133.keep K472
      have E474_b174 := E460_b174.keep K472
      have E475_hl := E469_hl.keep K472
      have E476_ot := E470_ot.keep K472
      have N472 := Fr.app N440 Nq472
      have Z472 : n0 ≤ T472.heap.size := Nat.le_trans Z440 K472.1
      replace hk := Nat.le_trans hk K472.1
      show GoP p e below Φ (T472.setTop (mkF m 230 #[.val (.int p1), .val (.int p2), .val (.int p3), .val (.int p4), .val (.int p5), .val (.int p6), .val (.int x0), .val (.int x1), .val (.int y0), .val (.int y1), .val (.int z0), .val (.int z1), .val (.ref mk_a), .val (.ref mk_b), .val (.ref mk_q), .val (.ref b133), .val (.ref b174), .val .null, .val (.int (0 : Int32)), .val (.int (1 : Int32)), .unset] []))
      refine own_aload X472 hx hby at_230 rfl rfl (pc' := 232) rfl ?_
      refine own_aload X472 hx hby at_232 rfl rfl (pc' := 234) rfl ?_
      refine own_aload X472 hx hby at_234 rfl rfl (pc' := 236) rfl ?_
      refine own_callV X472 hx hby hZ (by exact hml) hown (own_w hw 160 rfl) (own_w hw 161 rfl) (own_w hw 163 rfl) (own_w hw 162 rfl) (own_w hw 84 rfl) (own_w hw 164 rfl) (by decide) rfl 0 (by decide) (by decide) (by decide) (by decide) (argsL := [(.ref mk_q), (.ref b133)]) (rest := []) (lenOf pd__Lcom_example_tracemass_tracemass_nets_Marking_Lcom_example_tracemass_tracemass_numbers_Work__Lcom_example_tracemass_tracemass_nets_Marking_ rfl) rfl (Nat.le_of_eq rfl) E474_b174 (rmL0 l Z a0 hw b174 mk_q b133 T472.heap P472_size) at_236 (pc' := 239) rfl ?_
      intro v477 T477 L477 X477 hQ477
      obtain ⟨rfl, rfl, e477⟩ := hQ477
      rw [List.append_nil] at X477
      replace e477 : T477.heap = T472.heap := e477
      show GoP p e below Φ (T477.setTop (mkF m 239 #[.val (.int p1), .val (.int p2), .val (.int p3), .val (.int p4), .val (.int p5), .val (.int p6), .val (.int x0), .val (.int x1), .val (.int y0), .val (.int y1), .val (.int z0), .val (.int z1), .val (.ref mk_a), .val (.ref mk_b), .val (.ref mk_q), .val (.ref b133), .val (.ref b174), .val .null, .val (.int (0 : Int32)), .val (.int (1 : Int32)), .unset] [.null]))
      refine own_astore X477 hx hby at_239 rfl (Ls' := #[.val (.int p1), .val (.int p2), .val (.int p3), .val (.int p4), .val (.int p5), .val (.int p6), .val (.int x0), .val (.int x1), .val (.int y0), .val (.int y1), .val (.int z0), .val (.int z1), .val (.ref mk_a), .val (.ref mk_b), .val (.ref mk_q), .val (.ref b133), .val (.ref b174), .val .null, .val (.int (0 : Int32)), .val (.int (1 : Int32)), .val .null]) rfl (pc' := 241) rfl ?_
      refine own_iload X477 hx hby at_241 rfl (pc' := 243) rfl ?_
      refine own_ifN X477 hx hby at_243 ((if0 _ _).trans (feq (by decide)).1) (pc' := 246) rfl ?_
      refine own_aload X477 hx hby at_246 rfl rfl (pc' := 248) rfl ?_
      refine own_ifnonnullN X477 hx hby at_248 (pc' := 251) rfl ?_
      refine own_iconst X477 hx hby at_251 (v := (1 : Int32)) rfl (pc' := 252) rfl ?_
      refine own_goto X477 hx hby at_252 (by decide) (pc' := 256) (by decide) ?_
      exact own_retN X477 hx hby (fin _ _ hS) hret (by simp) rfl at_256 (by decide) (by decide) ⟨⟨rfl, N472⟩, (by rw [e477]; exact hk)⟩
    · refine own_icmpN X440 hx hby at_158 (flt hc158_471).1 (pc' := 161) rfl ?_
      refine own_iload X440 hx hby at_161 rfl (pc' := 163) rfl ?_
      refine own_iload X440 hx hby at_163 rfl (pc' := 165) rfl ?_
      by_cases hc165_478 : z1 < x1
      · refine own_icmpY X440 hx hby at_165 (tlt hc165_478).1 (by decide) (pc' := 190) (by decide) ?_
        refine own_iconst X440 hx hby at_190 (v := (0 : Int32)) rfl (pc' := 191) rfl ?_
        refine own_istore X440 hx hby at_191  (Ls' := #[.val (.int p1), .val (.int p2), .val (.int p3), .val (.int p4), .val (.int p5), .val (.int p6), .val (.int x0), .val (.int x1), .val (.int y0), .val (.int y1), .val (.int z0), .val (.int z1), .val (.ref mk_a), .val (.ref mk_b), .val (.ref mk_q), .val (.ref b133), .val (.ref b174), .val .null, .val (.int (0 : Int32)), .unset, .unset]) rfl (pc' := 193) rfl ?_
        refine own_iload X440 hx hby at_193 rfl (pc' := 195) rfl ?_
        refine own_ifY X440 hx hby at_195 ((if0 _ _).trans (teq (by decide)).1) (by decide) (pc' := 213) (by decide) ?_
        refine own_aload X440 hx hby at_213 rfl rfl (pc' := 215) rfl ?_
        refine own_ifnonnullN X440 hx hby at_215 (pc' := 218) rfl ?_
        refine own_iconst X440 hx hby at_218 (v := (1 : Int32)) rfl (pc' := 219) rfl ?_
        refine own_goto X440 hx hby at_219 (by decide) (pc' := 223) (by decide) ?_
        refine own_istore X440 hx hby at_223  (Ls' := #[.val (.int p1), .val (.int p2), .val (.int p3), .val (.int p4), .val (.int p5), .val (.int p6), .val (.int x0), .val (.int x1), .val (.int y0), .val (.int y1), .val (.int z0), .val (.int z1), .val (.ref mk_a), .val (.ref mk_b), .val (.ref mk_q), .val (.ref b133), .val (.ref b174), .val .null, .val (.int (0 : Int32)), .val (.int (1 : Int32)), .unset]) rfl (pc' := 225) rfl ?_
        refine own_aload X440 hx hby at_225 rfl rfl (pc' := 227) rfl ?_
        refine own_callV X440 hx hby hZ (by exact hml) hown (own_w hw 155 rfl) (own_w hw 156 rfl) (own_w hw 158 rfl) (own_w hw 157 rfl) (own_w hw 84 rfl) (own_w hw 159 rfl) (by decide) rfl 0 (by decide) (by decide) (by decide) (by decide) (argsL := []) (rest := []) (lenOf pd___V rfl) rfl (Nat.le_of_eq rfl) E460_b174 (rmRl1 l Z a0 hw b174 mks ft hl ot cp mk_a n0 T440.heap n0_b174 n0_mks E460_b174 F461_markings F462_fewestTotal F463_held F464_other F465_comparedCount F466_compared F467_size V468_mks) at_227 (pc' := 230) rfl ?_
        intro v479 T479 L479 X479 hQ479
        obtain ⟨rfl, Nq479, K479, P479_markings, P479_fewestTotal, P479_held, P479_other, P479_comparedCount, P479_compared, P479_size, Vs479⟩ := hQ479
        have E480_b133 := E459_b133.keep K479
        have E481_b174 := E460_b174.keep K479
        have E482_hl := E469_hl.keep K479
        have E483_ot := E470_ot.keep K479
        have N479 := Fr.app N440 Nq479
        have Z479 : n0 ≤ T479.heap.size := Nat.le_trans Z440 K479.1
        replace hk := Nat.le_trans hk K479.1
        show GoP p e below Φ (T479.setTop (mkF m 230 #[.val (.int p1), .val (.int p2), .val (.int p3), .val (.int p4), .val (.int p5), .val (.int p6), .val (.int x0), .val (.int x1), .val (.int y0), .val (.int y1), .val (.int z0), .val (.int z1), .val (.ref mk_a), .val (.ref mk_b), .val (.ref mk_q), .val (.ref b133), .val (.ref b174), .val .null, .val (.int (0 : Int32)), .val (.int (1 : Int32)), .unset] []))
        refine own_aload X479 hx hby at_230 rfl rfl (pc' := 232) rfl ?_
        refine own_aload X479 hx hby at_232 rfl rfl (pc' := 234) rfl ?_
        refine own_aload X479 hx hby at_234 rfl rfl (pc' := 236) rfl ?_
        refine own_callV X479 hx hby hZ (by exact hml) hown (own_w hw 160 rfl) (own_w hw 161 rfl) (own_w hw 163 rfl) (own_w hw 162 rfl) (own_w hw 84 rfl) (own_w hw 164 rfl) (by decide) rfl 0 (by decide) (by decide) (by decide) (by decide) (argsL := [(.ref mk_q), (.ref b133)]) (rest := []) (lenOf pd__Lcom_example_tracemass_tracemass_nets_Marking_Lcom_example_tracemass_tracemass_numbers_Work__Lcom_example_tracemass_tracemass_nets_Marking_ rfl) rfl (Nat.le_of_eq rfl) E481_b174 (rmL0 l Z a0 hw b174 mk_q b133 T479.heap P479_size) at_236 (pc' := 239) rfl ?_
        intro v484 T484 L484 X484 hQ484
        obtain ⟨rfl, rfl, e484⟩ := hQ484
        rw [List.append_nil] at X484
        replace e484 : T484.heap = T479.heap := e484
        show GoP p e below Φ (T484.setTop (mkF m 239 #[.val (.int p1), .val (.int p2), .val (.int p3), .val (.int p4), .val (.int p5), .val (.int p6), .val (.int x0), .val (.int x1), .val (.int y0), .val (.int y1), .val (.int z0), .val (.int z1), .val (.ref mk_a), .val (.ref mk_b), .val (.ref mk_q), .val (.ref b133), .val (.ref b174), .val .null, .val (.int (0 : Int32)), .val (.int (1 : Int32)), .unset] [.null]))
        refine own_astore X484 hx hby at_239 rfl (Ls' := #[.val (.int p1), .val (.int p2), .val (.int p3), .val (.int p4), .val (.int p5), .val (.int p6), .val (.int x0), .val (.int x1), .val (.int y0), .val (.int y1), .val (.int z0), .val (.int z1), .val (.ref mk_a), .val (.ref mk_b), .val (.ref mk_q), .val (.ref b133), .val (.ref b174), .val .null, .val (.int (0 : Int32)), .val (.int (1 : Int32)), .val .null]) rfl (pc' := 241) rfl ?_
        refine own_iload X484 hx hby at_241 rfl (pc' := 243) rfl ?_
        refine own_ifN X484 hx hby at_243 ((if0 _ _).trans (feq (by decide)).1) (pc' := 246) rfl ?_
        refine own_aload X484 hx hby at_246 rfl rfl (pc' := 248) rfl ?_
        refine own_ifnonnullN X484 hx hby at_248 (pc' := 251) rfl ?_
        refine own_iconst X484 hx hby at_251 (v := (1 : Int32)) rfl (pc' := 252) rfl ?_
        refine own_goto X484 hx hby at_252 (by decide) (pc' := 256) (by decide) ?_
        exact own_retN X484 hx hby (fin _ _ hS) hret (by simp) rfl at_256 (by decide) (by decide) ⟨⟨rfl, N479⟩, (by rw [e484]; exact hk)⟩
      · refine own_icmpN X440 hx hby at_165 (flt hc165_478).1 (pc' := 168) rfl ?_
        refine own_iload X440 hx hby at_168 rfl (pc' := 170) rfl ?_
        refine own_i2l X440 hx hby at_170 (pc' := 171) rfl ?_
        refine own_iload X440 hx hby at_171 rfl (pc' := 173) rfl ?_
        refine own_i2l X440 hx hby at_173 (pc' := 174) rfl ?_
        refine own_ladd X440 hx hby at_174 (pc' := 175) rfl ?_
        refine own_iload X440 hx hby at_175 rfl (pc' := 177) rfl ?_
        refine own_i2l X440 hx hby at_177 (pc' := 178) rfl ?_
        refine own_iload X440 hx hby at_178 rfl (pc' := 180) rfl ?_
        refine own_i2l X440 hx hby at_180 (pc' := 181) rfl ?_
        refine own_ladd X440 hx hby at_181 (pc' := 182) rfl ?_
        refine own_lcmp X440 hx hby at_182 (pc' := 183) rfl ?_
        by_cases hc183_485 : ((x0.toInt64) + (x1.toInt64)) < ((z0.toInt64) + (z1.toInt64))
        · exact absurd ⟨hc158_471, hc165_478, hc183_485⟩ hcd
        · refine own_ifY X440 hx hby at_183 ((if0 _ _).trans (flt (fun q => hc183_485 ((lw_gt _ _).mp q))).2.2.2) (by decide) (pc' := 190) (by decide) ?_
          refine own_iconst X440 hx hby at_190 (v := (0 : Int32)) rfl (pc' := 191) rfl ?_
          refine own_istore X440 hx hby at_191  (Ls' := #[.val (.int p1), .val (.int p2), .val (.int p3), .val (.int p4), .val (.int p5), .val (.int p6), .val (.int x0), .val (.int x1), .val (.int y0), .val (.int y1), .val (.int z0), .val (.int z1), .val (.ref mk_a), .val (.ref mk_b), .val (.ref mk_q), .val (.ref b133), .val (.ref b174), .val .null, .val (.int (0 : Int32)), .unset, .unset]) rfl (pc' := 193) rfl ?_
          refine own_iload X440 hx hby at_193 rfl (pc' := 195) rfl ?_
          refine own_ifY X440 hx hby at_195 ((if0 _ _).trans (teq (by decide)).1) (by decide) (pc' := 213) (by decide) ?_
          refine own_aload X440 hx hby at_213 rfl rfl (pc' := 215) rfl ?_
          refine own_ifnonnullN X440 hx hby at_215 (pc' := 218) rfl ?_
          refine own_iconst X440 hx hby at_218 (v := (1 : Int32)) rfl (pc' := 219) rfl ?_
          refine own_goto X440 hx hby at_219 (by decide) (pc' := 223) (by decide) ?_
          refine own_istore X440 hx hby at_223  (Ls' := #[.val (.int p1), .val (.int p2), .val (.int p3), .val (.int p4), .val (.int p5), .val (.int p6), .val (.int x0), .val (.int x1), .val (.int y0), .val (.int y1), .val (.int z0), .val (.int z1), .val (.ref mk_a), .val (.ref mk_b), .val (.ref mk_q), .val (.ref b133), .val (.ref b174), .val .null, .val (.int (0 : Int32)), .val (.int (1 : Int32)), .unset]) rfl (pc' := 225) rfl ?_
          refine own_aload X440 hx hby at_225 rfl rfl (pc' := 227) rfl ?_
          refine own_callV X440 hx hby hZ (by exact hml) hown (own_w hw 155 rfl) (own_w hw 156 rfl) (own_w hw 158 rfl) (own_w hw 157 rfl) (own_w hw 84 rfl) (own_w hw 159 rfl) (by decide) rfl 0 (by decide) (by decide) (by decide) (by decide) (argsL := []) (rest := []) (lenOf pd___V rfl) rfl (Nat.le_of_eq rfl) E460_b174 (rmRl1 l Z a0 hw b174 mks ft hl ot cp mk_a n0 T440.heap n0_b174 n0_mks E460_b174 F461_markings F462_fewestTotal F463_held F464_other F465_comparedCount F466_compared F467_size V468_mks) at_227 (pc' := 230) rfl ?_
          intro v486 T486 L486 X486 hQ486
          obtain ⟨rfl, Nq486, K486, P486_markings, P486_fewestTotal, P486_held, P486_other, P486_comparedCount, P486_compared, P486_size, Vs486⟩ := hQ486
          have E487_b133 := E459_b133.keep K486
          have E488_b174 := E460_b174.keep K486
          have E489_hl := E469_hl.keep K486
          have E490_ot := E470_ot.keep K486
          have N486 := Fr.app N440 Nq486
          have Z486 : n0 ≤ T486.heap.size := Nat.le_trans Z440 K486.1
          replace hk := Nat.le_trans hk K486.1
          show GoP p e below Φ (T486.setTop (mkF m 230 #[.val (.int p1), .val (.int p2), .val (.int p3), .val (.int p4), .val (.int p5), .val (.int p6), .val (.int x0), .val (.int x1), .val (.int y0), .val (.int y1), .val (.int z0), .val (.int z1), .val (.ref mk_a), .val (.ref mk_b), .val (.ref mk_q), .val (.ref b133), .val (.ref b174), .val .null, .val (.int (0 : Int32)), .val (.int (1 : Int32)), .unset] []))
          refine own_aload X486 hx hby at_230 rfl rfl (pc' := 232) rfl ?_
          refine own_aload X486 hx hby at_232 rfl rfl (pc' := 234) rfl ?_
          refine own_aload X486 hx hby at_234 rfl rfl (pc' := 236) rfl ?_
          refine own_callV X486 hx hby hZ (by exact hml) hown (own_w hw 160 rfl) (own_w hw 161 rfl) (own_w hw 163 rfl) (own_w hw 162 rfl) (own_w hw 84 rfl) (own_w hw 164 rfl) (by decide) rfl 0 (by decide) (by decide) (by decide) (by decide) (argsL := [(.ref mk_q), (.ref b133)]) (rest := []) (lenOf pd__Lcom_example_tracemass_tracemass_nets_Marking_Lcom_example_tracemass_tracemass_numbers_Work__Lcom_example_tracemass_tracemass_nets_Marking_ rfl) rfl (Nat.le_of_eq rfl) E488_b174 (rmL0 l Z a0 hw b174 mk_q b133 T486.heap P486_size) at_236 (pc' := 239) rfl ?_
          intro v491 T491 L491 X491 hQ491
          obtain ⟨rfl, rfl, e491⟩ := hQ491
          rw [List.append_nil] at X491
          replace e491 : T491.heap = T486.heap := e491
          show GoP p e below Φ (T491.setTop (mkF m 239 #[.val (.int p1), .val (.int p2), .val (.int p3), .val (.int p4), .val (.int p5), .val (.int p6), .val (.int x0), .val (.int x1), .val (.int y0), .val (.int y1), .val (.int z0), .val (.int z1), .val (.ref mk_a), .val (.ref mk_b), .val (.ref mk_q), .val (.ref b133), .val (.ref b174), .val .null, .val (.int (0 : Int32)), .val (.int (1 : Int32)), .unset] [.null]))
          refine own_astore X491 hx hby at_239 rfl (Ls' := #[.val (.int p1), .val (.int p2), .val (.int p3), .val (.int p4), .val (.int p5), .val (.int p6), .val (.int x0), .val (.int x1), .val (.int y0), .val (.int y1), .val (.int z0), .val (.int z1), .val (.ref mk_a), .val (.ref mk_b), .val (.ref mk_q), .val (.ref b133), .val (.ref b174), .val .null, .val (.int (0 : Int32)), .val (.int (1 : Int32)), .val .null]) rfl (pc' := 241) rfl ?_
          refine own_iload X491 hx hby at_241 rfl (pc' := 243) rfl ?_
          refine own_ifN X491 hx hby at_243 ((if0 _ _).trans (feq (by decide)).1) (pc' := 246) rfl ?_
          refine own_aload X491 hx hby at_246 rfl rfl (pc' := 248) rfl ?_
          refine own_ifnonnullN X491 hx hby at_248 (pc' := 251) rfl ?_
          refine own_iconst X491 hx hby at_251 (v := (1 : Int32)) rfl (pc' := 252) rfl ?_
          refine own_goto X491 hx hby at_252 (by decide) (pc' := 256) (by decide) ?_
          exact own_retN X491 hx hby (fin _ _ hS) hret (by simp) rfl at_256 (by decide) (by decide) ⟨⟨rfl, N486⟩, (by rw [e491]; exact hk)⟩
set_option maxRecDepth 65536 in
set_option maxHeartbeats 40000000 in
theorem comes_1 {Post : Tables → Env → Array Value → State → Outcome → State → Prop} (hpost : ∀ tb e args s v u, (limb_1_1.after args s (.returned v) u = true ∧ limb_1_2.after args s (.returned v) u = true ∧ True) → ReturnedEndW s (.returned v) u (Jvm.fieldLocs frame_1_writes args s ++ Jvm.arrayLocs frame_1_arrays args s ++ Jvm.staticLocs frame_1_statics s) 64 1344 → Post tb e args s (.returned v) u) :
    ArmFor flags0 classFile x code maxLocals ret World_1 tables_1 room_1 Calls_1 rest_1 Pre_1 Post := by
  intro l hfl _ _ p e ha hc hk s m args below hf hA hF happ hP
  obtain ⟨hcalls, hrest, hpre⟩ := hP
  obtain ⟨-, -, -, hnamed, -, -, -, hat⟩ := (Spec.applies_iff hf).mp happ
  obtain ⟨hg, hn⟩ := and_e (Cond.before_iff.mp (show (Jvm.Cond.and given_1 narrow_1).before args s = true from hpre))
  obtain ⟨g0, hg⟩ := and_e hg
  obtain ⟨w0, w1, w2, w3, w4, w5, rfl⟩ : ∃ w0 w1 w2 w3 w4 w5 : Value, args = #[w0, w1, w2, w3, w4, w5] := by
    have hs : args.size = 6 := by simpa [Cond.value, given_1] using g0
    obtain ⟨L⟩ := args
    match L, hs with
    | [w0, w1, w2, w3, w4, w5], _ => exact ⟨w0, w1, w2, w3, w4, w5, rfl⟩
  obtain ⟨q0, hg⟩ := and_e hg
  obtain ⟨q1, hg⟩ := and_e hg
  obtain ⟨q2, hg⟩ := and_e hg
  obtain ⟨q3, hg⟩ := and_e hg
  obtain ⟨q4, hg⟩ := and_e hg
  have q5 := hg
  have hw := fun d (hd : d ∈ tables_1) => atoms_spec (ws := Jvm.Cond.code x code maxLocals ret :: tables_1) hat d (List.mem_cons_of_mem _ hd)
  have hfit : Fit s := fun {y c} hc i hi => by
    obtain ⟨ha, rfl⟩ := Array.getElem?_eq_some_iff.mp hc
    have q := List.all_eq_true.mp ((Array.all_eq_true_iff_forall_mem.mp hF) _ (Array.getElem_mem ha)) i (List.mem_range.mpr hi)
    simpa [Array.getElem?_eq_getElem hi] using q
  obtain ⟨i0, f0⟩ := is_v q0
  obtain rfl : w0 = (.int i0) := Option.some.inj f0
  obtain ⟨i1, f1⟩ := is_v q1
  obtain rfl : w1 = (.int i1) := Option.some.inj f1
  obtain ⟨i2, f2⟩ := is_v q2
  obtain rfl : w2 = (.int i2) := Option.some.inj f2
  obtain ⟨i3, f3⟩ := is_v q3
  obtain rfl : w3 = (.int i3) := Option.some.inj f3
  obtain ⟨i4, f4⟩ := is_v q4
  obtain rfl : w4 = (.int i4) := Option.some.inj f4
  obtain ⟨i5, f5⟩ := is_v q5
  obtain rfl : w5 = (.int i5) := Option.some.inj f5
  obtain ⟨nn0, hn⟩ := and_e hn
  obtain ⟨nn1, hn⟩ := and_e hn
  have nn2 := hn
  obtain ⟨a_DEFAULT, ev_DEFAULT⟩ := exa_v nn0
  have E_DEFAULT := Exa.start ev_DEFAULT nn0
  have S_DEFAULT := Sta.start ev_DEFAULT (Or.inr ⟨(own_w hw 56 rfl), (own_w hw 57 rfl)⟩)
  obtain ⟨a_FRACTIONS, ev_FRACTIONS⟩ := exa_v nn1
  have E_FRACTIONS := Exa.start ev_FRACTIONS nn1
  have S_FRACTIONS := Sta.start ev_FRACTIONS (Or.inr ⟨(own_w hw 74 rfl), (own_w hw 75 rfl)⟩)
  have O_DEFAULT_times : Fld s s.heap a_DEFAULT "com/example/tracemass/tracemass/numbers/Work$Limits" "times" "I" (.int (1 : Int32)) := own_fldI ev_DEFAULT nn2
  obtain ⟨n, o, h1, h2, h3, _, L, rfl, ⟨rfl, N⟩, hq⟩ := rm0 l s _ hw i0 i1 i2 i3 i4 i5 a_DEFAULT a_FRACTIONS s.heap.size s.heap (Nat.le_refl _) E_DEFAULT.lt E_DEFAULT O_DEFAULT_times S_DEFAULT S_FRACTIONS p e ha hc hk s m _ below hf ((Spec.applies_iff_loose hf).mp happ).1 ⟨rfl, State.Warmed39.refl s, rfl, trivial⟩ trivial
  refine ⟨n, _, h1, h2, h3, hpost _ _ _ _ _ _ ⟨Cond.after_iff.mpr rfl, Cond.after_iff.mpr (eq_i res_at (Term.int_eval (1)) rfl), trivial⟩ ⟨hq.1, hq.2.1, hq.2.2.1, (hq.2.2.2.sift fun y hy => Or.inr (N y hy)).mono (by decide) (by decide)⟩⟩
theorem main_1_1 : Claimed_1_1 := comes_1 fun _ _ _ _ _ _ h hF => ⟨h.1, hF⟩
theorem main_1_2 : Claimed_1_2 := comes_1 fun _ _ _ _ _ _ h hF => ⟨h.2.1, hF⟩
end Jvm.Pilot.@@N@@
namespace Jvm.Pilot.@@N@@
open Jvm Jvm.ClassFile Sem Op Lib Jvm.Free Jvm.Stand Jvm.Pilot.@@N@@.Jvm.D
/-! MADE BY PROGRAM (witnessworld.py) out of the Statement's table words and the real class files: 31 classes; the members and pool entries that the words name. The judged class is class 1, her method 1. -/
namespace start1
open Jvm.ClassFile
def u (s : String) : CpInfo := .utf8 (stringToUtf16 s)
/-- a pool by its gaps: so many unusable entries, then the entry; so many at the end -/
def gap : Nat → List CpInfo → List CpInfo
  | 0, r => r
  | n + 1, r => .unusable :: gap n r
def poolList (es : List (Nat × CpInfo)) (last : Nat) : List CpInfo := es.foldr (fun e r => gap e.1 (e.2 :: r)) (gap last [])
def pool (es : List (Nat × CpInfo)) (last : Nat) : Array CpInfo := ⟨poolList es last⟩
def fileOf (pool : Array CpInfo) (this : Nat) (attrs : Array Attribute := #[]) (ms : Array MethodInfo := #[]) (fl : Nat := 33) (sup : Nat := 0) (ifs : Array Nat := #[]) (fds : Array FieldInfo := #[]) : ClassFile where
  minorVersion := 0
  majorVersion := 65
  constantPool := pool
  accessFlags := fl
  thisClass := this
  superClass := sup
  interfaces := ifs
  fields := fds
  methods := ms
  attributes := attrs
def plain (name : String) (sup : Option ClassId) : Class where
  name := name
  kind := .ordinary
  loader := none
  accessFlags := 33
  super := sup
  interfaces := #[]
  cf := none
  fields := #[]
  methods := #[]
  instanceTypes := #[]
  staticTypes := #[]
  resolved := #[]
  callSites := []
  init := .initialized
  statics := none
  mirror := none

def pool0 : Array CpInfo := pool [(5, u "<init>"), (0, u "()V"), (1, .class_ 10), (1, u "java/lang/Object"), (85, u "clone"), (0, u "()Ljava/lang/Object;")] 26

def k0c0 : Code := { maxStack := 0, maxLocals := 1, code := object_method_1_code, exceptionTable := #[], attributes := #[] }
def k0m0 : Method := { name := "<init>", desc := "()V", sig := { parameters := [], returnType := none }, accessFlags := 1, code := some k0c0 }
def k0m1 : Method := { name := "clone", desc := "()Ljava/lang/Object;", sig := { parameters := [], returnType := some (.object "java/lang/Object") }, accessFlags := 260, code := none }
/-- java/lang/Object -/
def k0 : Class := { plain "java/lang/Object" none with
  accessFlags := 33
  interfaces := #[]
  cf := some (fileOf pool0 8 #[] #[{ accessFlags := 1, nameIndex := 5, descriptorIndex := 6, attributes := #[] }, { accessFlags := 260, nameIndex := 96, descriptorIndex := 97, attributes := #[] }] 33 0 #[] #[])
  fields := #[]
  methods := #[k0m0, k0m1]
  instanceTypes := #[]
  staticTypes := #[]
  resolved := Array.replicate 124 none
  statics := none }

def pool1 : Array CpInfo := pool [(2, .class_ 4), (1, u "java/lang/Object"), (0, u "<init>"), (0, u "()V"), (0, .integer 2147483647), (0, .methodref 9 10), (0, .class_ 11), (0, .nameAndType 12 13), (0, u "com/example/tracemass/tracemass/nets/Marking"), (0, u "of"), (0, u "([I)Lcom/example/tracemass/tracemass/nets/Marking;"), (0, .class_ 15), (0, u "com/example/tracemass/tracemass/numbers/Work"), (0, .fieldref 17 18), (0, .class_ 19), (0, .nameAndType 20 21), (0, u "com/example/tracemass/tracemass/numbers/Work$Limits"), (0, u "DEFAULT"), (0, u "Lcom/example/tracemass/tracemass/numbers/Work$Limits;"), (0, .methodref 14 23), (0, .nameAndType 5 24), (0, u "(Lcom/example/tracemass/tracemass/numbers/Work$Limits;)V"), (0, .class_ 26), (0, u "com/example/tracemass/tracemass/qstates/SilentPath"), (0, .methodref 25 28), (0, .nameAndType 5 29), (0, u "([I)V"), (0, .methodref 25 31), (0, .nameAndType 32 33), (0, u "add"), (0, u "(Lcom/example/tracemass/tracemass/nets/Marking;)V"), (0, .methodref 25 35), (0, .nameAndType 36 6), (0, u "removeLast"), (0, .methodref 25 38), (0, .nameAndType 39 40), (0, u "latestCoveredBy"), (0, u "(Lcom/example/tracemass/tracemass/nets/Marking;Lcom/example/tracemass/tracemass/numbers/Work;)Lcom/example/tracemass/tracemass/nets/Marking;"), (0, .class_ 42), (0, u "com/example/tracemass/tracemass/qstates/SilentPathRemoveLastPinLaw"), (2, u "law"), (0, u "(IIIIII)Z")] 5

def k1m0 : Method := { name := "<init>", desc := "()V", sig := { parameters := [], returnType := none }, accessFlags := 1, code := none }
def k1c1 : Code := { maxStack := 6, maxLocals := 21, code := code, exceptionTable := #[], attributes := #[] }
def k1m1 : Method := { name := "law", desc := "(IIIIII)Z", sig := { parameters := [.int, .int, .int, .int, .int, .int], returnType := some .boolean }, accessFlags := 9, code := some k1c1 }
/-- com/example/tracemass/tracemass/qstates/SilentPathRemoveLastPinLaw -/
def k1 : Class := { plain "com/example/tracemass/tracemass/qstates/SilentPathRemoveLastPinLaw" (some 0) with
  accessFlags := 49
  interfaces := #[]
  cf := some (fileOf pool1 41 #[] #[{ accessFlags := 1, nameIndex := 5, descriptorIndex := 6, attributes := #[] }, { accessFlags := 9, nameIndex := 45, descriptorIndex := 46, attributes := #[] }] 49 2 #[] #[])
  fields := #[]
  methods := #[k1m0, k1m1]
  instanceTypes := #[]
  staticTypes := #[]
  resolved := Array.replicate 52 none
  statics := none }

def pool2 : Array CpInfo := pool [(1, .class_ 2), (0, u "java/lang/Comparable"), (0, .class_ 4), (0, u "java/lang/Object")] 7

/-- java/lang/Comparable -/
def k2 : Class := { plain "java/lang/Comparable" (some 0) with
  accessFlags := 1537
  interfaces := #[]
  cf := some (fileOf pool2 1 #[] #[] 1537 3 #[] #[])
  fields := #[]
  methods := #[]
  instanceTypes := #[]
  staticTypes := #[]
  resolved := Array.replicate 12 none
  statics := none }

def pool3 : Array CpInfo := pool [(1, .methodref 2 3), (0, .class_ 4), (0, .nameAndType 5 6), (0, u "java/lang/Object"), (0, u "<init>"), (0, u "()V"), (0, .fieldref 8 9), (0, .class_ 10), (0, .nameAndType 11 12), (0, u "com/example/tracemass/tracemass/nets/Marking"), (0, u "places"), (0, u "I"), (0, .fieldref 8 14), (0, .nameAndType 15 16), (0, u "marked"), (0, u "[I"), (0, .fieldref 8 18), (0, .nameAndType 19 16), (0, u "counts"), (0, .fieldref 8 21), (0, .nameAndType 22 12), (0, u "markedCount"), (0, .methodref 24 25), (0, .class_ 26), (0, .nameAndType 27 28), (0, u "java/util/Arrays"), (0, u "hashCode"), (0, u "([I)I"), (0, .methodref 8 30), (0, .nameAndType 31 32), (0, u "sparseHash"), (0, u "(I[I[I)I"), (0, .fieldref 8 34), (0, .nameAndType 35 12), (0, u "hash"), (13, .methodref 8 50), (0, .nameAndType 51 52), (0, u "keptPlaceByPlace"), (0, u "(II)Z"), (0, .methodref 54 55), (0, .class_ 16), (0, .nameAndType 56 57), (0, u "clone"), (0, u "()Ljava/lang/Object;"), (0, .methodref 8 59), (0, .nameAndType 60 61), (0, u "ofCounts"), (0, u "([II)Lcom/example/tracemass/tracemass/nets/Marking;"), (0, .methodref 8 63), (0, .nameAndType 5 64), (0, u "(I[I[II)V"), (14, .long 2), (13, u "(I)I"), (2, u "entries"), (0, u "()I"), (2, u "entryPlace"), (2, u "entryTokens"), (14, .methodref 8 119), (0, .nameAndType 120 93), (0, u "power31"), (4, .class_ 126), (0, u "java/lang/Comparable"), (3, u "of"), (0, u "([I)Lcom/example/tracemass/tracemass/nets/Marking;")] 25

def k3c0 : Code := { maxStack := 4, maxLocals := 5, code := prog_38_method_1_code, exceptionTable := #[], attributes := #[] }
def k3m0 : Method := { name := "<init>", desc := "(I[I[II)V", sig := { parameters := [.int, (.array .int), (.array .int), .int], returnType := none }, accessFlags := 2, code := some k3c0 }
def k3c1 : Code := { maxStack := 3, maxLocals := 6, code := prog_38_method_2_code, exceptionTable := #[], attributes := #[] }
def k3m1 : Method := { name := "of", desc := "([I)Lcom/example/tracemass/tracemass/nets/Marking;", sig := { parameters := [(.array .int)], returnType := some (.object "com/example/tracemass/tracemass/nets/Marking") }, accessFlags := 137, code := some k3c1 }
def k3c2 : Code := { maxStack := 6, maxLocals := 7, code := prog_38_method_3_code, exceptionTable := #[], attributes := #[] }
def k3m2 : Method := { name := "ofCounts", desc := "([II)Lcom/example/tracemass/tracemass/nets/Marking;", sig := { parameters := [(.array .int), .int], returnType := some (.object "com/example/tracemass/tracemass/nets/Marking") }, accessFlags := 10, code := some k3c2 }
def k3c3 : Code := { maxStack := 6, maxLocals := 2, code := prog_38_method_6_code, exceptionTable := #[], attributes := #[] }
def k3m3 : Method := { name := "keptPlaceByPlace", desc := "(II)Z", sig := { parameters := [.int, .int], returnType := some .boolean }, accessFlags := 10, code := some k3c3 }
def k3c4 : Code := { maxStack := 1, maxLocals := 1, code := prog_38_method_9_code, exceptionTable := #[], attributes := #[] }
def k3m4 : Method := { name := "marked", desc := "()I", sig := { parameters := [], returnType := some .int }, accessFlags := 1, code := some k3c4 }
def k3c5 : Code := { maxStack := 1, maxLocals := 1, code := prog_38_method_10_code, exceptionTable := #[], attributes := #[] }
def k3m5 : Method := { name := "entries", desc := "()I", sig := { parameters := [], returnType := some .int }, accessFlags := 1, code := some k3c5 }
def k3c6 : Code := { maxStack := 2, maxLocals := 2, code := prog_38_method_11_code, exceptionTable := #[], attributes := #[] }
def k3m6 : Method := { name := "entryPlace", desc := "(I)I", sig := { parameters := [.int], returnType := some .int }, accessFlags := 1, code := some k3c6 }
def k3c7 : Code := { maxStack := 2, maxLocals := 2, code := prog_38_method_12_code, exceptionTable := #[], attributes := #[] }
def k3m7 : Method := { name := "entryTokens", desc := "(I)I", sig := { parameters := [.int], returnType := some .int }, accessFlags := 1, code := some k3c7 }
def k3c8 : Code := { maxStack := 3, maxLocals := 6, code := prog_38_method_18_code, exceptionTable := #[], attributes := #[] }
def k3m8 : Method := { name := "sparseHash", desc := "(I[I[I)I", sig := { parameters := [.int, (.array .int), (.array .int)], returnType := some .int }, accessFlags := 10, code := some k3c8 }
def k3c9 : Code := { maxStack := 2, maxLocals := 4, code := prog_38_method_19_code, exceptionTable := #[], attributes := #[] }
def k3m9 : Method := { name := "power31", desc := "(I)I", sig := { parameters := [.int], returnType := some .int }, accessFlags := 10, code := some k3c9 }
/-- com/example/tracemass/tracemass/nets/Marking -/
def k3 : Class := { plain "com/example/tracemass/tracemass/nets/Marking" (some 0) with
  accessFlags := 49
  interfaces := #[2]
  cf := some (fileOf pool3 8 #[] #[{ accessFlags := 2, nameIndex := 5, descriptorIndex := 64, attributes := #[] }, { accessFlags := 137, nameIndex := 130, descriptorIndex := 131, attributes := #[] }, { accessFlags := 10, nameIndex := 60, descriptorIndex := 61, attributes := #[] }, { accessFlags := 10, nameIndex := 51, descriptorIndex := 52, attributes := #[] }, { accessFlags := 1, nameIndex := 15, descriptorIndex := 97, attributes := #[] }, { accessFlags := 1, nameIndex := 96, descriptorIndex := 97, attributes := #[] }, { accessFlags := 1, nameIndex := 100, descriptorIndex := 93, attributes := #[] }, { accessFlags := 1, nameIndex := 103, descriptorIndex := 93, attributes := #[] }, { accessFlags := 10, nameIndex := 31, descriptorIndex := 32, attributes := #[] }, { accessFlags := 10, nameIndex := 120, descriptorIndex := 93, attributes := #[] }] 49 2 #[125] #[{ accessFlags := 18, nameIndex := 11, descriptorIndex := 12, attributes := #[] }, { accessFlags := 18, nameIndex := 15, descriptorIndex := 16, attributes := #[] }, { accessFlags := 18, nameIndex := 19, descriptorIndex := 16, attributes := #[] }, { accessFlags := 18, nameIndex := 22, descriptorIndex := 12, attributes := #[] }, { accessFlags := 18, nameIndex := 35, descriptorIndex := 12, attributes := #[] }])
  fields := #[{ name := "places", type := .int, accessFlags := 18, slot := 0, constantValue := 0 }, { name := "marked", type := (.array .int), accessFlags := 18, slot := 1, constantValue := 0 }, { name := "counts", type := (.array .int), accessFlags := 18, slot := 2, constantValue := 0 }, { name := "markedCount", type := .int, accessFlags := 18, slot := 3, constantValue := 0 }, { name := "hash", type := .int, accessFlags := 18, slot := 4, constantValue := 0 }]
  methods := #[k3m0, k3m1, k3m2, k3m3, k3m4, k3m5, k3m6, k3m7, k3m8, k3m9]
  instanceTypes := #[.int, (.array .int), (.array .int), .int, .int]
  staticTypes := #[]
  resolved := Array.replicate 157 none
  statics := none }

def pool4 : Array CpInfo := pool [(1, .class_ 2), (0, u "java/lang/Cloneable"), (0, .class_ 4), (0, u "java/lang/Object")] 2

/-- java/lang/Cloneable -/
def k4 : Class := { plain "java/lang/Cloneable" (some 0) with
  accessFlags := 1537
  interfaces := #[]
  cf := some (fileOf pool4 1 #[] #[] 1537 3 #[] #[])
  fields := #[]
  methods := #[]
  instanceTypes := #[]
  staticTypes := #[]
  resolved := Array.replicate 7 none
  statics := none }

def pool5 : Array CpInfo := pool [(2, .class_ 4), (1, u "java/lang/Object"), (0, u "<init>"), (0, u "()V"), (7, .class_ 16), (1, u "java/util/Arrays"), (57, .class_ 76), (1, u "java/util/Arrays$NaturalOrder"), (36, .class_ 115), (1, u "java/util/Arrays$LegacyMergeSort"), (1, u "Z"), (128, .class_ 248), (1, u "jdk/internal/util/ArraysSupport"), (126, .class_ 376), (0, u "java/util/Arrays$ArrayList"), (2, .methodref 246 380), (0, .nameAndType 381 382), (0, u "vectorizedHashCode"), (0, u "(Ljava/lang/Object;IIII)I"), (2, u "hashCode"), (22, u "([I)I"), (36, u "$assertionsDisabled"), (269, u "MIN_ARRAY_SORT_GRAN"), (0, u "I"), (2, u "INSERTIONSORT_THRESHOLD"), (255, .class_ 976), (0, u "java/util/Arrays$ArrayItr")] 52

def k5m0 : Method := { name := "<init>", desc := "()V", sig := { parameters := [], returnType := none }, accessFlags := 2, code := none }
def k5c1 : Code := { maxStack := 5, maxLocals := 1, code := jdk_65_method_150_code, exceptionTable := #[], attributes := #[] }
def k5m1 : Method := { name := "hashCode", desc := "([I)I", sig := { parameters := [(.array .int)], returnType := some .int }, accessFlags := 9, code := some k5c1 }
/-- java/util/Arrays -/
def k5 : Class := { plain "java/util/Arrays" (some 0) with
  accessFlags := 49
  interfaces := #[]
  cf := some (fileOf pool5 14 #[.nestMembers #[975, 375, 113, 74]] #[{ accessFlags := 2, nameIndex := 5, descriptorIndex := 6, attributes := #[] }, { accessFlags := 9, nameIndex := 385, descriptorIndex := 408, attributes := #[] }] 49 2 #[] #[{ accessFlags := 26, nameIndex := 715, descriptorIndex := 716, attributes := #[] }, { accessFlags := 26, nameIndex := 719, descriptorIndex := 716, attributes := #[] }, { accessFlags := 4120, nameIndex := 445, descriptorIndex := 117, attributes := #[] }])
  fields := #[{ name := "MIN_ARRAY_SORT_GRAN", type := .int, accessFlags := 26, slot := 0, constantValue := 0 }, { name := "INSERTIONSORT_THRESHOLD", type := .int, accessFlags := 26, slot := 1, constantValue := 0 }, { name := "$assertionsDisabled", type := .boolean, accessFlags := 4120, slot := 2, constantValue := 0 }]
  methods := #[k5m0, k5m1]
  instanceTypes := #[]
  staticTypes := #[.int, .int, .boolean]
  resolved := Array.replicate 1029 none
  statics := none }

def pool6 : Array CpInfo := pool [(9, u "<init>"), (6, .class_ 18), (1, u "java/lang/Object"), (0, u "()V"), (1, .class_ 23), (1, u "jdk/internal/util/ArraysSupport"), (0, u "LOG2_ARRAY_LONG_INDEX_SCALE"), (0, u "I"), (2, u "U"), (0, u "Ljdk/internal/misc/Unsafe;"), (8, u "BIG_ENDIAN"), (0, u "Z"), (8, u "LOG2_BYTE_BIT_SIZE"), (4, u "LOG2_ARRAY_INT_INDEX_SCALE"), (19, u "hashCode"), (8, .class_ 83), (0, u "[I"), (0, .methodref 21 85), (0, .nameAndType 73 86), (0, u "(I[III)I"), (21, u "JLA"), (0, u "Ljdk/internal/access/JavaLangAccess;"), (11, u "LOG2_ARRAY_BOOLEAN_INDEX_SCALE"), (9, u "LOG2_ARRAY_BYTE_INDEX_SCALE"), (5, u "LOG2_ARRAY_CHAR_INDEX_SCALE"), (5, u "LOG2_ARRAY_SHORT_INDEX_SCALE"), (18, u "LOG2_ARRAY_FLOAT_INDEX_SCALE"), (24, u "LOG2_ARRAY_DOUBLE_INDEX_SCALE"), (89, u "T_BOOLEAN"), (2, u "T_CHAR"), (1, u "T_FLOAT"), (1, u "T_DOUBLE"), (1, u "T_BYTE"), (1, u "T_SHORT"), (1, u "T_INT"), (1, u "T_LONG"), (1, u "SOFT_MAX_ARRAY_LENGTH"), (26, u "vectorizedHashCode"), (0, u "(Ljava/lang/Object;IIII)I")] 55

def k6m0 : Method := { name := "<init>", desc := "()V", sig := { parameters := [], returnType := none }, accessFlags := 2, code := none }
def k6c1 : Code := { maxStack := 4, maxLocals := 5, code := jdk_48_method_4_code, exceptionTable := #[], attributes := #[] }
def k6m1 : Method := { name := "vectorizedHashCode", desc := "(Ljava/lang/Object;IIII)I", sig := { parameters := [(.object "java/lang/Object"), .int, .int, .int, .int], returnType := some .int }, accessFlags := 9, code := some k6c1 }
def k6c2 : Code := { maxStack := 3, maxLocals := 6, code := jdk_48_method_9_code, exceptionTable := #[], attributes := #[] }
def k6m2 : Method := { name := "hashCode", desc := "(I[III)I", sig := { parameters := [.int, (.array .int), .int, .int], returnType := some .int }, accessFlags := 10, code := some k6c2 }
/-- jdk/internal/util/ArraysSupport -/
def k6 : Class := { plain "jdk/internal/util/ArraysSupport" (some 0) with
  accessFlags := 33
  interfaces := #[]
  cf := some (fileOf pool6 21 #[] #[{ accessFlags := 2, nameIndex := 9, descriptorIndex := 19, attributes := #[] }, { accessFlags := 9, nameIndex := 321, descriptorIndex := 322, attributes := #[] }, { accessFlags := 10, nameIndex := 73, descriptorIndex := 86, attributes := #[] }] 33 16 #[] #[{ accessFlags := 24, nameIndex := 28, descriptorIndex := 29, attributes := #[] }, { accessFlags := 26, nameIndex := 38, descriptorIndex := 39, attributes := #[] }, { accessFlags := 25, nameIndex := 121, descriptorIndex := 25, attributes := #[] }, { accessFlags := 25, nameIndex := 131, descriptorIndex := 25, attributes := #[] }, { accessFlags := 25, nameIndex := 137, descriptorIndex := 25, attributes := #[] }, { accessFlags := 25, nameIndex := 143, descriptorIndex := 25, attributes := #[] }, { accessFlags := 25, nameIndex := 53, descriptorIndex := 25, attributes := #[] }, { accessFlags := 25, nameIndex := 24, descriptorIndex := 25, attributes := #[] }, { accessFlags := 25, nameIndex := 162, descriptorIndex := 25, attributes := #[] }, { accessFlags := 25, nameIndex := 187, descriptorIndex := 25, attributes := #[] }, { accessFlags := 26, nameIndex := 48, descriptorIndex := 25, attributes := #[] }, { accessFlags := 25, nameIndex := 277, descriptorIndex := 25, attributes := #[] }, { accessFlags := 25, nameIndex := 280, descriptorIndex := 25, attributes := #[] }, { accessFlags := 25, nameIndex := 282, descriptorIndex := 25, attributes := #[] }, { accessFlags := 25, nameIndex := 284, descriptorIndex := 25, attributes := #[] }, { accessFlags := 25, nameIndex := 286, descriptorIndex := 25, attributes := #[] }, { accessFlags := 25, nameIndex := 288, descriptorIndex := 25, attributes := #[] }, { accessFlags := 25, nameIndex := 290, descriptorIndex := 25, attributes := #[] }, { accessFlags := 25, nameIndex := 292, descriptorIndex := 25, attributes := #[] }, { accessFlags := 26, nameIndex := 108, descriptorIndex := 109, attributes := #[] }, { accessFlags := 25, nameIndex := 294, descriptorIndex := 25, attributes := #[] }])
  fields := #[{ name := "U", type := (.object "jdk/internal/misc/Unsafe"), accessFlags := 24, slot := 0, constantValue := 0 }, { name := "BIG_ENDIAN", type := .boolean, accessFlags := 26, slot := 1, constantValue := 0 }, { name := "LOG2_ARRAY_BOOLEAN_INDEX_SCALE", type := .int, accessFlags := 25, slot := 2, constantValue := 0 }, { name := "LOG2_ARRAY_BYTE_INDEX_SCALE", type := .int, accessFlags := 25, slot := 3, constantValue := 0 }, { name := "LOG2_ARRAY_CHAR_INDEX_SCALE", type := .int, accessFlags := 25, slot := 4, constantValue := 0 }, { name := "LOG2_ARRAY_SHORT_INDEX_SCALE", type := .int, accessFlags := 25, slot := 5, constantValue := 0 }, { name := "LOG2_ARRAY_INT_INDEX_SCALE", type := .int, accessFlags := 25, slot := 6, constantValue := 0 }, { name := "LOG2_ARRAY_LONG_INDEX_SCALE", type := .int, accessFlags := 25, slot := 7, constantValue := 0 }, { name := "LOG2_ARRAY_FLOAT_INDEX_SCALE", type := .int, accessFlags := 25, slot := 8, constantValue := 0 }, { name := "LOG2_ARRAY_DOUBLE_INDEX_SCALE", type := .int, accessFlags := 25, slot := 9, constantValue := 0 }, { name := "LOG2_BYTE_BIT_SIZE", type := .int, accessFlags := 26, slot := 10, constantValue := 0 }, { name := "T_BOOLEAN", type := .int, accessFlags := 25, slot := 11, constantValue := 0 }, { name := "T_CHAR", type := .int, accessFlags := 25, slot := 12, constantValue := 0 }, { name := "T_FLOAT", type := .int, accessFlags := 25, slot := 13, constantValue := 0 }, { name := "T_DOUBLE", type := .int, accessFlags := 25, slot := 14, constantValue := 0 }, { name := "T_BYTE", type := .int, accessFlags := 25, slot := 15, constantValue := 0 }, { name := "T_SHORT", type := .int, accessFlags := 25, slot := 16, constantValue := 0 }, { name := "T_INT", type := .int, accessFlags := 25, slot := 17, constantValue := 0 }, { name := "T_LONG", type := .int, accessFlags := 25, slot := 18, constantValue := 0 }, { name := "JLA", type := (.object "jdk/internal/access/JavaLangAccess"), accessFlags := 26, slot := 19, constantValue := 0 }, { name := "SOFT_MAX_ARRAY_LENGTH", type := .int, accessFlags := 25, slot := 20, constantValue := 0 }]
  methods := #[k6m0, k6m1, k6m2]
  instanceTypes := #[]
  staticTypes := #[(.object "jdk/internal/misc/Unsafe"), .boolean, .int, .int, .int, .int, .int, .int, .int, .int, .int, .int, .int, .int, .int, .int, .int, .int, .int, (.object "jdk/internal/access/JavaLangAccess"), .int]
  resolved := Array.replicate 378 none
  statics := none }

def pool7 : Array CpInfo := pool [(1, .class_ 2), (0, u "com/example/tracemass/tracemass/numbers/Work"), (0, .string 4), (0, u "the net is too large to answer exactly"), (0, .methodref 1 6), (0, .nameAndType 7 8), (0, u "<init>"), (0, u "(Lcom/example/tracemass/tracemass/numbers/Work$Limits;Ljava/lang/String;)V"), (0, .methodref 10 11), (0, .class_ 12), (0, .nameAndType 7 13), (0, u "java/lang/Object"), (0, u "()V"), (0, .fieldref 15 16), (0, .class_ 17), (0, .nameAndType 18 19), (0, u "com/example/tracemass/tracemass/numbers/Work$Operands"), (0, u "FRACTIONS"), (0, u "Lcom/example/tracemass/tracemass/numbers/Work$Operands;"), (0, .fieldref 1 21), (0, .nameAndType 22 19), (0, u "last"), (0, .fieldref 1 24), (0, .nameAndType 25 26), (0, u "limits"), (0, u "Lcom/example/tracemass/tracemass/numbers/Work$Limits;"), (0, .fieldref 1 28), (0, .nameAndType 29 30), (0, u "tooLarge"), (0, u "Ljava/lang/String;"), (2, u "markings"), (0, u "J"), (1, .class_ 38), (1, u "com/example/tracemass/tracemass/numbers/Work$Limits"), (0, u "()J"), (14, u "tokenCounts"), (7, u "enablingChecks"), (3, .methodref 36 67), (0, .nameAndType 68 39), (0, u "comparisons"), (0, .fieldref 1 70), (0, .nameAndType 68 34), (104, u "lastOperand"), (5, u "bitOperations"), (109, u "MARKINGS"), (3, u "TOKEN_COUNTS"), (2, u "ENABLING_CHECKS"), (2, u "BIT_OPERATIONS"), (2, u "SMALLEST_OPERAND"), (0, u "WORD"), (0, u "WHOLE_SHARE"), (0, u "WORD_BY_WORD"), (0, u "WORD_OPERATION"), (0, u "GCD_STEP"), (0, u "FLOATING_OPERATION"), (0, u "COMPARISONS"), (0, u "BOUND_BITS"), (0, u "I"), (1, u "(Lcom/example/tracemass/tracemass/numbers/Work$Limits;)V"), (8, u "compare"), (0, u "(I)Z")] 47

def k7c0 : Code := { maxStack := 3, maxLocals := 2, code := prog_63_method_1_code, exceptionTable := #[], attributes := #[] }
def k7m0 : Method := { name := "<init>", desc := "(Lcom/example/tracemass/tracemass/numbers/Work$Limits;)V", sig := { parameters := [(.object "com/example/tracemass/tracemass/numbers/Work$Limits")], returnType := none }, accessFlags := 1, code := some k7c0 }
def k7c1 : Code := { maxStack := 2, maxLocals := 3, code := prog_63_method_2_code, exceptionTable := #[], attributes := #[] }
def k7m1 : Method := { name := "<init>", desc := "(Lcom/example/tracemass/tracemass/numbers/Work$Limits;Ljava/lang/String;)V", sig := { parameters := [(.object "com/example/tracemass/tracemass/numbers/Work$Limits"), (.object "java/lang/String")], returnType := none }, accessFlags := 1, code := some k7c1 }
def k7c2 : Code := { maxStack := 6, maxLocals := 2, code := prog_63_method_6_code, exceptionTable := #[], attributes := #[] }
def k7m2 : Method := { name := "compare", desc := "(I)Z", sig := { parameters := [.int], returnType := some .boolean }, accessFlags := 1, code := some k7c2 }
/-- com/example/tracemass/tracemass/numbers/Work -/
def k7 : Class := { plain "com/example/tracemass/tracemass/numbers/Work" (some 0) with
  accessFlags := 49
  interfaces := #[]
  cf := some (fileOf pool7 1 #[.nestMembers #[15, 36]] #[{ accessFlags := 1, nameIndex := 7, descriptorIndex := 315, attributes := #[] }, { accessFlags := 1, nameIndex := 7, descriptorIndex := 8, attributes := #[] }, { accessFlags := 1, nameIndex := 324, descriptorIndex := 325, attributes := #[] }] 49 10 #[] #[{ accessFlags := 24, nameIndex := 291, descriptorIndex := 34, attributes := #[] }, { accessFlags := 24, nameIndex := 295, descriptorIndex := 34, attributes := #[] }, { accessFlags := 24, nameIndex := 298, descriptorIndex := 34, attributes := #[] }, { accessFlags := 24, nameIndex := 301, descriptorIndex := 34, attributes := #[] }, { accessFlags := 24, nameIndex := 304, descriptorIndex := 34, attributes := #[] }, { accessFlags := 24, nameIndex := 305, descriptorIndex := 34, attributes := #[] }, { accessFlags := 24, nameIndex := 306, descriptorIndex := 34, attributes := #[] }, { accessFlags := 24, nameIndex := 307, descriptorIndex := 34, attributes := #[] }, { accessFlags := 24, nameIndex := 308, descriptorIndex := 34, attributes := #[] }, { accessFlags := 24, nameIndex := 309, descriptorIndex := 34, attributes := #[] }, { accessFlags := 24, nameIndex := 310, descriptorIndex := 34, attributes := #[] }, { accessFlags := 25, nameIndex := 311, descriptorIndex := 34, attributes := #[] }, { accessFlags := 24, nameIndex := 312, descriptorIndex := 313, attributes := #[] }, { accessFlags := 18, nameIndex := 25, descriptorIndex := 26, attributes := #[] }, { accessFlags := 18, nameIndex := 29, descriptorIndex := 30, attributes := #[] }, { accessFlags := 2, nameIndex := 33, descriptorIndex := 34, attributes := #[] }, { accessFlags := 2, nameIndex := 54, descriptorIndex := 34, attributes := #[] }, { accessFlags := 2, nameIndex := 62, descriptorIndex := 34, attributes := #[] }, { accessFlags := 2, nameIndex := 181, descriptorIndex := 34, attributes := #[] }, { accessFlags := 2, nameIndex := 175, descriptorIndex := 34, attributes := #[] }, { accessFlags := 2, nameIndex := 22, descriptorIndex := 19, attributes := #[] }, { accessFlags := 2, nameIndex := 68, descriptorIndex := 34, attributes := #[] }])
  fields := #[{ name := "MARKINGS", type := .long, accessFlags := 24, slot := 0, constantValue := 0 }, { name := "TOKEN_COUNTS", type := .long, accessFlags := 24, slot := 1, constantValue := 0 }, { name := "ENABLING_CHECKS", type := .long, accessFlags := 24, slot := 2, constantValue := 0 }, { name := "BIT_OPERATIONS", type := .long, accessFlags := 24, slot := 3, constantValue := 0 }, { name := "SMALLEST_OPERAND", type := .long, accessFlags := 24, slot := 4, constantValue := 0 }, { name := "WORD", type := .long, accessFlags := 24, slot := 5, constantValue := 0 }, { name := "WHOLE_SHARE", type := .long, accessFlags := 24, slot := 6, constantValue := 0 }, { name := "WORD_BY_WORD", type := .long, accessFlags := 24, slot := 7, constantValue := 0 }, { name := "WORD_OPERATION", type := .long, accessFlags := 24, slot := 8, constantValue := 0 }, { name := "GCD_STEP", type := .long, accessFlags := 24, slot := 9, constantValue := 0 }, { name := "FLOATING_OPERATION", type := .long, accessFlags := 24, slot := 10, constantValue := 0 }, { name := "COMPARISONS", type := .long, accessFlags := 25, slot := 11, constantValue := 0 }, { name := "BOUND_BITS", type := .int, accessFlags := 24, slot := 12, constantValue := 0 }, { name := "limits", type := (.object "com/example/tracemass/tracemass/numbers/Work$Limits"), accessFlags := 18, slot := 0, constantValue := 0 }, { name := "tooLarge", type := (.object "java/lang/String"), accessFlags := 18, slot := 1, constantValue := 0 }, { name := "markings", type := .long, accessFlags := 2, slot := 2, constantValue := 0 }, { name := "tokenCounts", type := .long, accessFlags := 2, slot := 3, constantValue := 0 }, { name := "enablingChecks", type := .long, accessFlags := 2, slot := 4, constantValue := 0 }, { name := "bitOperations", type := .long, accessFlags := 2, slot := 5, constantValue := 0 }, { name := "lastOperand", type := .long, accessFlags := 2, slot := 6, constantValue := 0 }, { name := "last", type := (.object "com/example/tracemass/tracemass/numbers/Work$Operands"), accessFlags := 2, slot := 7, constantValue := 0 }, { name := "comparisons", type := .long, accessFlags := 2, slot := 8, constantValue := 0 }]
  methods := #[k7m0, k7m1, k7m2]
  instanceTypes := #[(.object "com/example/tracemass/tracemass/numbers/Work$Limits"), (.object "java/lang/String"), .long, .long, .long, .long, .long, (.object "com/example/tracemass/tracemass/numbers/Work$Operands"), .long]
  staticTypes := #[.long, .long, .long, .long, .long, .long, .long, .long, .long, .long, .long, .long, .int]
  resolved := Array.replicate 373 none
  statics := none }

def pool8 : Array CpInfo := pool [(2, .class_ 4), (1, u "java/lang/Object"), (0, u "<init>"), (0, u "()V"), (0, .class_ 8), (0, u "java/lang/Record")] 13

def k8m0 : Method := { name := "<init>", desc := "()V", sig := { parameters := [], returnType := none }, accessFlags := 4, code := none }
/-- java/lang/Record -/
def k8 : Class := { plain "java/lang/Record" (some 0) with
  accessFlags := 1057
  interfaces := #[]
  cf := some (fileOf pool8 7 #[] #[{ accessFlags := 4, nameIndex := 5, descriptorIndex := 6, attributes := #[] }] 1057 2 #[] #[])
  fields := #[]
  methods := #[k8m0]
  instanceTypes := #[]
  staticTypes := #[]
  resolved := Array.replicate 22 none
  statics := none }

def pool9 : Array CpInfo := pool [(1, .class_ 2), (0, u "com/example/tracemass/tracemass/numbers/Work"), (1, .class_ 6), (1, u "java/lang/Record"), (2, .class_ 10), (0, u "com/example/tracemass/tracemass/numbers/Work$Limits"), (10, .fieldref 9 22), (0, .nameAndType 23 24), (0, u "times"), (0, u "I"), (2, .long 100000000), (22, u "DEFAULT"), (0, u "Lcom/example/tracemass/tracemass/numbers/Work$Limits;"), (0, u "MOST_TIMES"), (6, u "()J"), (3, u "comparisons")] 33

def k9c0 : Code := { maxStack := 4, maxLocals := 1, code := prog_64_method_6_code, exceptionTable := #[], attributes := #[] }
def k9m0 : Method := { name := "comparisons", desc := "()J", sig := { parameters := [], returnType := some .long }, accessFlags := 0, code := some k9c0 }
/-- com/example/tracemass/tracemass/numbers/Work$Limits -/
def k9 : Class := { plain "com/example/tracemass/tracemass/numbers/Work$Limits" (some 8) with
  accessFlags := 49
  interfaces := #[]
  cf := some (fileOf pool9 9 #[.nestHost 1] #[{ accessFlags := 0, nameIndex := 63, descriptorIndex := 59, attributes := #[] }] 49 4 #[] #[{ accessFlags := 18, nameIndex := 23, descriptorIndex := 24, attributes := #[] }, { accessFlags := 25, nameIndex := 50, descriptorIndex := 51, attributes := #[] }, { accessFlags := 25, nameIndex := 52, descriptorIndex := 24, attributes := #[] }])
  fields := #[{ name := "times", type := .int, accessFlags := 18, slot := 0, constantValue := 0 }, { name := "DEFAULT", type := (.object "com/example/tracemass/tracemass/numbers/Work$Limits"), accessFlags := 25, slot := 0, constantValue := 0 }, { name := "MOST_TIMES", type := .int, accessFlags := 25, slot := 1, constantValue := 0 }]
  methods := #[k9m0]
  instanceTypes := #[.int]
  staticTypes := #[(.object "com/example/tracemass/tracemass/numbers/Work$Limits"), .int]
  resolved := Array.replicate 97 none
  statics := some 0 }

def pool10 : Array CpInfo := pool [(1, .class_ 2), (0, u "java/io/Serializable"), (0, .class_ 4), (0, u "java/lang/Object")] 2

/-- java/io/Serializable -/
def k10 : Class := { plain "java/io/Serializable" (some 0) with
  accessFlags := 1537
  interfaces := #[]
  cf := some (fileOf pool10 1 #[] #[] 1537 3 #[] #[])
  fields := #[]
  methods := #[]
  instanceTypes := #[]
  staticTypes := #[]
  resolved := Array.replicate 7 none
  statics := none }

def pool11 : Array CpInfo := pool [(2, .class_ 4), (1, u "java/lang/CharSequence"), (42, .class_ 48), (0, u "java/lang/CharSequence$1CodePointIterator"), (10, .class_ 60), (0, u "java/lang/CharSequence$1CharIterator"), (5, .class_ 67), (0, u "java/lang/Object")] 63

/-- java/lang/CharSequence -/
def k11 : Class := { plain "java/lang/CharSequence" (some 0) with
  accessFlags := 1537
  interfaces := #[]
  cf := some (fileOf pool11 2 #[.nestMembers #[47, 59]] #[] 1537 66 #[] #[])
  fields := #[]
  methods := #[]
  instanceTypes := #[]
  staticTypes := #[]
  resolved := Array.replicate 131 none
  statics := none }

def pool12 : Array CpInfo := pool [(1, .class_ 2), (0, u "java/lang/constant/Constable"), (0, .class_ 4), (0, u "java/lang/Object")] 6

/-- java/lang/constant/Constable -/
def k12 : Class := { plain "java/lang/constant/Constable" (some 0) with
  accessFlags := 1537
  interfaces := #[]
  cf := some (fileOf pool12 1 #[] #[] 1537 3 #[] #[])
  fields := #[]
  methods := #[]
  instanceTypes := #[]
  staticTypes := #[]
  resolved := Array.replicate 11 none
  statics := none }

def pool13 : Array CpInfo := pool [(1, .class_ 2), (0, u "java/lang/constant/ConstantDesc"), (0, .class_ 4), (0, u "java/lang/Object")] 32

/-- java/lang/constant/ConstantDesc -/
def k13 : Class := { plain "java/lang/constant/ConstantDesc" (some 0) with
  accessFlags := 1537
  interfaces := #[]
  cf := some (fileOf pool13 1 #[] #[] 1537 3 #[] #[])
  fields := #[]
  methods := #[]
  instanceTypes := #[]
  staticTypes := #[]
  resolved := Array.replicate 37 none
  statics := none }

def pool14 : Array CpInfo := pool [(2, .class_ 4), (1, u "java/lang/Object"), (0, u "<init>"), (0, u "()V"), (3, .class_ 12), (1, u "java/lang/String"), (0, u "value"), (0, u "[B"), (2, u "coder"), (0, u "B"), (2, u "hash"), (0, u "I"), (2, u "hashIsZero"), (0, u "Z"), (13, u "COMPACT_STRINGS"), (534, .class_ 576), (0, u "java/lang/CharSequence"), (22, u "CASE_INSENSITIVE_ORDER"), (0, u "Ljava/util/Comparator;"), (500, u "serialPersistentFields"), (0, u "[Ljava/io/ObjectStreamField;"), (0, .class_ 1104), (0, u "java/lang/String$CaseInsensitiveComparator"), (1, .class_ 1107), (0, u "java/io/Serializable"), (0, .class_ 1109), (0, u "java/lang/Comparable"), (0, .class_ 1111), (0, u "java/lang/constant/Constable"), (0, .class_ 1113), (0, u "java/lang/constant/ConstantDesc"), (2, u "serialVersionUID"), (0, u "J"), (3, u "REPL"), (0, u "C"), (2, u "LATIN1"), (1, u "UTF16")] 323

def k14m0 : Method := { name := "<init>", desc := "()V", sig := { parameters := [], returnType := none }, accessFlags := 1, code := none }
/-- java/lang/String -/
def k14 : Class := { plain "java/lang/String" (some 0) with
  accessFlags := 49
  interfaces := #[10, 2, 11, 12, 13]
  cf := some (fileOf pool14 10 #[.nestMembers #[1103]] #[{ accessFlags := 1, nameIndex := 5, descriptorIndex := 6, attributes := #[] }] 49 2 #[1106, 1108, 575, 1110, 1112] #[{ accessFlags := 18, nameIndex := 13, descriptorIndex := 14, attributes := #[] }, { accessFlags := 18, nameIndex := 17, descriptorIndex := 18, attributes := #[] }, { accessFlags := 2, nameIndex := 21, descriptorIndex := 22, attributes := #[] }, { accessFlags := 2, nameIndex := 25, descriptorIndex := 26, attributes := #[] }, { accessFlags := 26, nameIndex := 1116, descriptorIndex := 1117, attributes := #[] }, { accessFlags := 24, nameIndex := 40, descriptorIndex := 26, attributes := #[] }, { accessFlags := 26, nameIndex := 1101, descriptorIndex := 1102, attributes := #[] }, { accessFlags := 26, nameIndex := 1121, descriptorIndex := 1122, attributes := #[] }, { accessFlags := 25, nameIndex := 599, descriptorIndex := 600, attributes := #[] }, { accessFlags := 24, nameIndex := 1125, descriptorIndex := 18, attributes := #[] }, { accessFlags := 24, nameIndex := 1127, descriptorIndex := 18, attributes := #[] }])
  fields := #[{ name := "value", type := (.array .byte), accessFlags := 18, slot := 0, constantValue := 0 }, { name := "coder", type := .byte, accessFlags := 18, slot := 1, constantValue := 0 }, { name := "hash", type := .int, accessFlags := 2, slot := 2, constantValue := 0 }, { name := "hashIsZero", type := .boolean, accessFlags := 2, slot := 3, constantValue := 0 }, { name := "serialVersionUID", type := .long, accessFlags := 26, slot := 0, constantValue := 0 }, { name := "COMPACT_STRINGS", type := .boolean, accessFlags := 24, slot := 1, constantValue := 0 }, { name := "serialPersistentFields", type := (.array (.object "java/io/ObjectStreamField")), accessFlags := 26, slot := 2, constantValue := 0 }, { name := "REPL", type := .char, accessFlags := 26, slot := 3, constantValue := 0 }, { name := "CASE_INSENSITIVE_ORDER", type := (.object "java/util/Comparator"), accessFlags := 25, slot := 4, constantValue := 0 }, { name := "LATIN1", type := .byte, accessFlags := 24, slot := 5, constantValue := 0 }, { name := "UTF16", type := .byte, accessFlags := 24, slot := 6, constantValue := 0 }]
  methods := #[k14m0]
  instanceTypes := #[(.array .byte), .byte, .int, .boolean]
  staticTypes := #[.long, .boolean, (.array (.object "java/io/ObjectStreamField")), .char, (.object "java/util/Comparator"), .byte, .byte]
  resolved := Array.replicate 1451 none
  statics := none }

def pool15 : Array CpInfo := pool [(2, .class_ 4), (1, u "java/lang/Enum"), (0, u "name"), (0, u "Ljava/lang/String;"), (2, u "ordinal"), (0, u "I"), (1, .class_ 14), (1, u "java/lang/Object"), (4, u "hash"), (86, .class_ 108), (1, u "java/lang/Enum$EnumDesc"), (2, .class_ 112), (0, u "java/lang/constant/Constable"), (0, .class_ 114), (0, u "java/lang/Comparable"), (0, .class_ 116), (0, u "java/io/Serializable")] 87

/-- java/lang/Enum -/
def k15 : Class := { plain "java/lang/Enum" (some 0) with
  accessFlags := 1057
  interfaces := #[12, 2, 10]
  cf := some (fileOf pool15 2 #[.nestMembers #[106]] #[] 1057 12 #[111, 113, 115] #[{ accessFlags := 18, nameIndex := 5, descriptorIndex := 6, attributes := #[] }, { accessFlags := 18, nameIndex := 9, descriptorIndex := 10, attributes := #[] }, { accessFlags := 2, nameIndex := 19, descriptorIndex := 10, attributes := #[] }])
  fields := #[{ name := "name", type := (.object "java/lang/String"), accessFlags := 18, slot := 0, constantValue := 0 }, { name := "ordinal", type := .int, accessFlags := 18, slot := 1, constantValue := 0 }, { name := "hash", type := .int, accessFlags := 2, slot := 2, constantValue := 0 }]
  methods := #[]
  instanceTypes := #[(.object "java/lang/String"), .int, .int]
  staticTypes := #[]
  resolved := Array.replicate 204 none
  statics := none }

def pool16 : Array CpInfo := pool [(1, .class_ 2), (0, u "com/example/tracemass/tracemass/numbers/Work$Operands"), (2, u "FRACTIONS"), (0, u "Lcom/example/tracemass/tracemass/numbers/Work$Operands;"), (2, u "WORDS"), (2, u "FLOATS"), (2, u "$VALUES"), (0, u "[Lcom/example/tracemass/tracemass/numbers/Work$Operands;"), (6, .class_ 25), (1, u "java/lang/Enum"), (26, .class_ 53), (0, u "com/example/tracemass/tracemass/numbers/Work")] 2

/-- com/example/tracemass/tracemass/numbers/Work$Operands -/
def k16 : Class := { plain "com/example/tracemass/tracemass/numbers/Work$Operands" (some 15) with
  accessFlags := 16432
  interfaces := #[]
  cf := some (fileOf pool16 1 #[.nestHost 52] #[] 16432 23 #[] #[{ accessFlags := 16409, nameIndex := 5, descriptorIndex := 6, attributes := #[] }, { accessFlags := 16409, nameIndex := 9, descriptorIndex := 6, attributes := #[] }, { accessFlags := 16409, nameIndex := 12, descriptorIndex := 6, attributes := #[] }, { accessFlags := 4122, nameIndex := 15, descriptorIndex := 16, attributes := #[] }])
  fields := #[{ name := "FRACTIONS", type := (.object "com/example/tracemass/tracemass/numbers/Work$Operands"), accessFlags := 16409, slot := 0, constantValue := 0 }, { name := "WORDS", type := (.object "com/example/tracemass/tracemass/numbers/Work$Operands"), accessFlags := 16409, slot := 1, constantValue := 0 }, { name := "FLOATS", type := (.object "com/example/tracemass/tracemass/numbers/Work$Operands"), accessFlags := 16409, slot := 2, constantValue := 0 }, { name := "$VALUES", type := (.array (.object "com/example/tracemass/tracemass/numbers/Work$Operands")), accessFlags := 4122, slot := 3, constantValue := 0 }]
  methods := #[]
  instanceTypes := #[(.object "java/lang/String"), .int, .int]
  staticTypes := #[(.object "com/example/tracemass/tracemass/numbers/Work$Operands"), (.object "com/example/tracemass/tracemass/numbers/Work$Operands"), (.object "com/example/tracemass/tracemass/numbers/Work$Operands"), (.array (.object "com/example/tracemass/tracemass/numbers/Work$Operands"))]
  resolved := Array.replicate 56 none
  statics := some 1 }

def pool17 : Array CpInfo := pool [(1, .methodref 2 3), (0, .class_ 4), (0, .nameAndType 5 6), (0, u "java/lang/Object"), (0, u "<init>"), (0, u "()V"), (0, .class_ 8), (0, u "com/example/tracemass/tracemass/qstates/SilentPath"), (0, .class_ 10), (0, u "com/example/tracemass/tracemass/nets/Marking"), (0, .fieldref 7 12), (0, .nameAndType 13 14), (0, u "markings"), (0, u "[Lcom/example/tracemass/tracemass/nets/Marking;"), (0, .class_ 16), (0, u "[[I"), (0, .fieldref 7 18), (0, .nameAndType 19 20), (0, u "fewest"), (0, u "[[[I"), (0, .fieldref 7 22), (0, .nameAndType 23 24), (0, u "fewestTotal"), (0, u "[J"), (0, .class_ 26), (0, u "com/example/tracemass/tracemass/qstates/SilentPath$Pairs"), (0, .methodref 25 3), (0, .fieldref 7 29), (0, .nameAndType 30 31), (0, u "held"), (0, u "Lcom/example/tracemass/tracemass/qstates/SilentPath$Pairs;"), (0, .fieldref 7 33), (0, .nameAndType 34 31), (0, u "other"), (0, .fieldref 7 36), (0, .nameAndType 37 38), (0, u "comparedCount"), (0, u "I"), (0, .methodref 40 41), (0, .class_ 42), (0, .nameAndType 43 44), (0, u "java/lang/Math"), (0, u "max"), (0, u "(II)I"), (0, .fieldref 7 46), (0, .nameAndType 47 48), (0, u "compared"), (0, u "[Z"), (0, .class_ 50), (0, u "[I"), (0, .fieldref 7 52), (0, .nameAndType 53 38), (0, u "size"), (3, .methodref 7 58), (0, .nameAndType 59 60), (0, u "comparedTotal"), (0, u "(Lcom/example/tracemass/tracemass/nets/Marking;)J"), (0, .methodref 40 62), (0, .nameAndType 63 64), (0, u "min"), (0, u "(JJ)J"), (9, u "removeLast"), (0, .methodref 25 76), (0, .nameAndType 77 78), (0, u "read"), (0, u "(Lcom/example/tracemass/tracemass/nets/Marking;[ZI)V"), (0, .methodref 80 81), (0, .class_ 82), (0, .nameAndType 83 84), (0, u "java/lang/Integer"), (0, u "numberOfTrailingZeros"), (0, u "(I)I"), (0, .methodref 9 86), (0, .nameAndType 87 88), (0, u "marked"), (0, u "()I"), (0, .methodref 40 90), (0, .nameAndType 63 44), (0, .methodref 92 93), (0, .class_ 94), (0, .nameAndType 95 96), (0, u "com/example/tracemass/tracemass/numbers/Work"), (0, u "compare"), (0, u "(I)Z"), (0, .fieldref 25 98), (0, .nameAndType 99 50), (0, u "values"), (0, .fieldref 25 101), (0, .nameAndType 102 38), (0, u "length"), (0, .methodref 25 104), (0, .nameAndType 105 106), (0, u "covers"), (0, u "([II)Z"), (0, .methodref 9 108), (0, .nameAndType 109 88), (0, u "entries"), (0, .methodref 9 111), (0, .nameAndType 112 84), (0, u "entryPlace"), (0, .methodref 9 114), (0, .nameAndType 115 84), (0, u "entryTokens"), (17, u "SHORTEST_LEVEL"), (2, u "([I)V"), (3, u "add"), (0, u "(Lcom/example/tracemass/tracemass/nets/Marking;)V"), (2, u "latestCoveredBy"), (0, u "(Lcom/example/tracemass/tracemass/nets/Marking;Lcom/example/tracemass/tracemass/numbers/Work;)Lcom/example/tracemass/tracemass/nets/Marking;")] 5

def k17c0 : Code := { maxStack := 3, maxLocals := 7, code := prog_86_method_1_code, exceptionTable := #[], attributes := #[] }
def k17m0 : Method := { name := "<init>", desc := "([I)V", sig := { parameters := [(.array .int)], returnType := none }, accessFlags := 0, code := some k17c0 }
def k17c1 : Code := { maxStack := 7, maxLocals := 6, code := prog_86_method_2_code, exceptionTable := #[], attributes := #[] }
def k17m1 : Method := { name := "add", desc := "(Lcom/example/tracemass/tracemass/nets/Marking;)V", sig := { parameters := [(.object "com/example/tracemass/tracemass/nets/Marking")], returnType := none }, accessFlags := 0, code := some k17c1 }
def k17c2 : Code := { maxStack := 4, maxLocals := 1, code := prog_86_method_3_code, exceptionTable := #[], attributes := #[] }
def k17m2 : Method := { name := "removeLast", desc := "()V", sig := { parameters := [], returnType := none }, accessFlags := 0, code := some k17c2 }
def k17c3 : Code := { maxStack := 5, maxLocals := 6, code := prog_86_method_5_code, exceptionTable := #[], attributes := #[] }
def k17m3 : Method := { name := "latestCoveredBy", desc := "(Lcom/example/tracemass/tracemass/nets/Marking;Lcom/example/tracemass/tracemass/numbers/Work;)Lcom/example/tracemass/tracemass/nets/Marking;", sig := { parameters := [(.object "com/example/tracemass/tracemass/nets/Marking"), (.object "com/example/tracemass/tracemass/numbers/Work")], returnType := some (.object "com/example/tracemass/tracemass/nets/Marking") }, accessFlags := 0, code := some k17c3 }
def k17c4 : Code := { maxStack := 4, maxLocals := 6, code := prog_86_method_6_code, exceptionTable := #[], attributes := #[] }
def k17m4 : Method := { name := "comparedTotal", desc := "(Lcom/example/tracemass/tracemass/nets/Marking;)J", sig := { parameters := [(.object "com/example/tracemass/tracemass/nets/Marking")], returnType := some .long }, accessFlags := 2, code := some k17c4 }
/-- com/example/tracemass/tracemass/qstates/SilentPath -/
def k17 : Class := { plain "com/example/tracemass/tracemass/qstates/SilentPath" (some 0) with
  accessFlags := 48
  interfaces := #[]
  cf := some (fileOf pool17 7 #[.nestMembers #[25]] #[{ accessFlags := 0, nameIndex := 5, descriptorIndex := 136, attributes := #[] }, { accessFlags := 0, nameIndex := 140, descriptorIndex := 141, attributes := #[] }, { accessFlags := 0, nameIndex := 74, descriptorIndex := 6, attributes := #[] }, { accessFlags := 0, nameIndex := 144, descriptorIndex := 145, attributes := #[] }, { accessFlags := 2, nameIndex := 59, descriptorIndex := 60, attributes := #[] }] 48 2 #[] #[{ accessFlags := 26, nameIndex := 133, descriptorIndex := 38, attributes := #[] }, { accessFlags := 18, nameIndex := 37, descriptorIndex := 38, attributes := #[] }, { accessFlags := 18, nameIndex := 47, descriptorIndex := 48, attributes := #[] }, { accessFlags := 2, nameIndex := 53, descriptorIndex := 38, attributes := #[] }, { accessFlags := 2, nameIndex := 13, descriptorIndex := 14, attributes := #[] }, { accessFlags := 2, nameIndex := 19, descriptorIndex := 20, attributes := #[] }, { accessFlags := 2, nameIndex := 23, descriptorIndex := 24, attributes := #[] }, { accessFlags := 18, nameIndex := 30, descriptorIndex := 31, attributes := #[] }, { accessFlags := 18, nameIndex := 34, descriptorIndex := 31, attributes := #[] }])
  fields := #[{ name := "SHORTEST_LEVEL", type := .int, accessFlags := 26, slot := 0, constantValue := 0 }, { name := "comparedCount", type := .int, accessFlags := 18, slot := 0, constantValue := 0 }, { name := "compared", type := (.array .boolean), accessFlags := 18, slot := 1, constantValue := 0 }, { name := "size", type := .int, accessFlags := 2, slot := 2, constantValue := 0 }, { name := "markings", type := (.array (.object "com/example/tracemass/tracemass/nets/Marking")), accessFlags := 2, slot := 3, constantValue := 0 }, { name := "fewest", type := (.array (.array (.array .int))), accessFlags := 2, slot := 4, constantValue := 0 }, { name := "fewestTotal", type := (.array .long), accessFlags := 2, slot := 5, constantValue := 0 }, { name := "held", type := (.object "com/example/tracemass/tracemass/qstates/SilentPath$Pairs"), accessFlags := 18, slot := 6, constantValue := 0 }, { name := "other", type := (.object "com/example/tracemass/tracemass/qstates/SilentPath$Pairs"), accessFlags := 18, slot := 7, constantValue := 0 }]
  methods := #[k17m0, k17m1, k17m2, k17m3, k17m4]
  instanceTypes := #[.int, (.array .boolean), .int, (.array (.object "com/example/tracemass/tracemass/nets/Marking")), (.array (.array (.array .int))), (.array .long), (.object "com/example/tracemass/tracemass/qstates/SilentPath$Pairs"), (.object "com/example/tracemass/tracemass/qstates/SilentPath$Pairs")]
  staticTypes := #[.int]
  resolved := ((Array.replicate 151 none).setIfInBounds 25 (some (.cls 18))).setIfInBounds 27 (some (.method ⟨18, 0⟩))
  statics := none }

def pool18 : Array CpInfo := pool [(1, .methodref 2 3), (0, .class_ 4), (0, .nameAndType 5 6), (0, u "java/lang/Object"), (0, u "<init>"), (0, u "()V"), (0, .fieldref 8 9), (0, .class_ 10), (0, .nameAndType 11 12), (0, u "com/example/tracemass/tracemass/qstates/SilentPath$Pairs"), (0, u "values"), (0, u "[I"), (0, .methodref 14 15), (0, .class_ 16), (0, .nameAndType 17 18), (0, u "com/example/tracemass/tracemass/nets/Marking"), (0, u "marked"), (0, u "()I"), (0, .methodref 20 21), (0, .class_ 22), (0, .nameAndType 23 24), (0, u "java/lang/Math"), (0, u "min"), (0, u "(II)I"), (0, .methodref 20 26), (0, .nameAndType 27 24), (0, u "max"), (0, .fieldref 8 29), (0, .nameAndType 30 31), (0, u "length"), (0, u "I"), (0, .methodref 14 33), (0, .nameAndType 34 18), (0, u "entries"), (0, .methodref 14 36), (0, .nameAndType 37 38), (0, u "entryPlace"), (0, u "(I)I"), (0, .methodref 14 40), (0, .nameAndType 41 38), (0, u "entryTokens"), (0, .methodref 8 43), (0, .nameAndType 44 24), (0, u "indexFrom"), (2, u "read"), (0, u "(Lcom/example/tracemass/tracemass/nets/Marking;[ZI)V"), (1, u "covers"), (0, u "([II)Z"), (3, .class_ 56), (0, u "com/example/tracemass/tracemass/qstates/SilentPath")] 2

def k18c0 : Code := { maxStack := 2, maxLocals := 1, code := prog_87_method_1_code, exceptionTable := #[], attributes := #[] }
def k18m0 : Method := { name := "<init>", desc := "()V", sig := { parameters := [], returnType := none }, accessFlags := 2, code := some k18c0 }
def k18c1 : Code := { maxStack := 5, maxLocals := 7, code := prog_87_method_2_code, exceptionTable := #[], attributes := #[] }
def k18m1 : Method := { name := "read", desc := "(Lcom/example/tracemass/tracemass/nets/Marking;[ZI)V", sig := { parameters := [(.object "com/example/tracemass/tracemass/nets/Marking"), (.array .boolean), .int], returnType := none }, accessFlags := 0, code := some k18c1 }
def k18c2 : Code := { maxStack := 4, maxLocals := 5, code := prog_87_method_3_code, exceptionTable := #[], attributes := #[] }
def k18m2 : Method := { name := "covers", desc := "([II)Z", sig := { parameters := [(.array .int), .int], returnType := some .boolean }, accessFlags := 0, code := some k18c2 }
def k18c3 : Code := { maxStack := 3, maxLocals := 8, code := prog_87_method_4_code, exceptionTable := #[], attributes := #[] }
def k18m3 : Method := { name := "indexFrom", desc := "(II)I", sig := { parameters := [.int, .int], returnType := some .int }, accessFlags := 2, code := some k18c3 }
/-- com/example/tracemass/tracemass/qstates/SilentPath$Pairs -/
def k18 : Class := { plain "com/example/tracemass/tracemass/qstates/SilentPath$Pairs" (some 0) with
  accessFlags := 48
  interfaces := #[]
  cf := some (fileOf pool18 8 #[.nestHost 55] #[{ accessFlags := 2, nameIndex := 5, descriptorIndex := 6, attributes := #[] }, { accessFlags := 0, nameIndex := 47, descriptorIndex := 48, attributes := #[] }, { accessFlags := 0, nameIndex := 50, descriptorIndex := 51, attributes := #[] }, { accessFlags := 2, nameIndex := 44, descriptorIndex := 24, attributes := #[] }] 48 2 #[] #[{ accessFlags := 0, nameIndex := 11, descriptorIndex := 12, attributes := #[] }, { accessFlags := 0, nameIndex := 30, descriptorIndex := 31, attributes := #[] }])
  fields := #[{ name := "values", type := (.array .int), accessFlags := 0, slot := 0, constantValue := 0 }, { name := "length", type := .int, accessFlags := 0, slot := 1, constantValue := 0 }]
  methods := #[k18m0, k18m1, k18m2, k18m3]
  instanceTypes := #[(.array .int), .int]
  staticTypes := #[]
  resolved := Array.replicate 59 none
  statics := none }

def pool19 : Array CpInfo := pool [(1, .class_ 2), (0, u "java/lang/Math"), (1, .class_ 6), (1, u "java/lang/Object"), (0, u "<init>"), (0, u "()V"), (89, .class_ 100), (1, u "java/lang/Math$RandomNumberGeneratorHolder"), (20, u "(JJ)J"), (50, u "negativeZeroFloatBits"), (0, u "J"), (2, u "negativeZeroDoubleBits"), (21, u "max"), (2, u "min"), (43, u "$assertionsDisabled"), (0, u "Z"), (88, u "(II)I"), (2, u "twoToTheDoubleScaleDown"), (0, u "D"), (4, u "twoToTheDoubleScaleUp"), (9, u "E"), (3, u "PI"), (2, u "TAU"), (2, u "DEGREES_TO_RADIANS"), (0, u "RADIANS_TO_DEGREES")] 94

def k19m0 : Method := { name := "<init>", desc := "()V", sig := { parameters := [], returnType := none }, accessFlags := 2, code := none }
def k19c1 : Code := { maxStack := 2, maxLocals := 2, code := jdk_29_method_65_code, exceptionTable := #[], attributes := #[] }
def k19m1 : Method := { name := "max", desc := "(II)I", sig := { parameters := [.int, .int], returnType := some .int }, accessFlags := 9, code := some k19c1 }
def k19c2 : Code := { maxStack := 2, maxLocals := 2, code := jdk_29_method_69_code, exceptionTable := #[], attributes := #[] }
def k19m2 : Method := { name := "min", desc := "(II)I", sig := { parameters := [.int, .int], returnType := some .int }, accessFlags := 9, code := some k19c2 }
def k19c3 : Code := { maxStack := 4, maxLocals := 4, code := jdk_29_method_70_code, exceptionTable := #[], attributes := #[] }
def k19m3 : Method := { name := "min", desc := "(JJ)J", sig := { parameters := [.long, .long], returnType := some .long }, accessFlags := 9, code := some k19c3 }
/-- java/lang/Math -/
def k19 : Class := { plain "java/lang/Math" (some 0) with
  accessFlags := 49
  interfaces := #[]
  cf := some (fileOf pool19 1 #[.nestMembers #[98]] #[{ accessFlags := 2, nameIndex := 7, descriptorIndex := 8, attributes := #[] }, { accessFlags := 9, nameIndex := 198, descriptorIndex := 335, attributes := #[] }, { accessFlags := 9, nameIndex := 201, descriptorIndex := 335, attributes := #[] }, { accessFlags := 9, nameIndex := 201, descriptorIndex := 121, attributes := #[] }] 49 4 #[] #[{ accessFlags := 25, nameIndex := 354, descriptorIndex := 339, attributes := #[] }, { accessFlags := 25, nameIndex := 358, descriptorIndex := 339, attributes := #[] }, { accessFlags := 25, nameIndex := 361, descriptorIndex := 339, attributes := #[] }, { accessFlags := 26, nameIndex := 364, descriptorIndex := 339, attributes := #[] }, { accessFlags := 26, nameIndex := 365, descriptorIndex := 339, attributes := #[] }, { accessFlags := 26, nameIndex := 172, descriptorIndex := 173, attributes := #[] }, { accessFlags := 26, nameIndex := 176, descriptorIndex := 173, attributes := #[] }, { accessFlags := 8, nameIndex := 344, descriptorIndex := 339, attributes := #[] }, { accessFlags := 8, nameIndex := 338, descriptorIndex := 339, attributes := #[] }, { accessFlags := 4120, nameIndex := 245, descriptorIndex := 246, attributes := #[] }])
  fields := #[{ name := "E", type := .double, accessFlags := 25, slot := 0, constantValue := 0 }, { name := "PI", type := .double, accessFlags := 25, slot := 1, constantValue := 0 }, { name := "TAU", type := .double, accessFlags := 25, slot := 2, constantValue := 0 }, { name := "DEGREES_TO_RADIANS", type := .double, accessFlags := 26, slot := 3, constantValue := 0 }, { name := "RADIANS_TO_DEGREES", type := .double, accessFlags := 26, slot := 4, constantValue := 0 }, { name := "negativeZeroFloatBits", type := .long, accessFlags := 26, slot := 5, constantValue := 0 }, { name := "negativeZeroDoubleBits", type := .long, accessFlags := 26, slot := 6, constantValue := 0 }, { name := "twoToTheDoubleScaleUp", type := .double, accessFlags := 8, slot := 7, constantValue := 0 }, { name := "twoToTheDoubleScaleDown", type := .double, accessFlags := 8, slot := 8, constantValue := 0 }, { name := "$assertionsDisabled", type := .boolean, accessFlags := 4120, slot := 9, constantValue := 0 }]
  methods := #[k19m0, k19m1, k19m2, k19m3]
  instanceTypes := #[]
  staticTypes := #[.double, .double, .double, .double, .double, .long, .long, .double, .double, .boolean]
  resolved := Array.replicate 460 none
  statics := none }

def pool20 : Array CpInfo := pool [(2, .class_ 4), (1, u "java/lang/Object"), (0, u "<init>"), (0, u "()V"), (1, .class_ 10), (1, u "java/lang/Number"), (2, .class_ 14), (0, u "java/io/Serializable"), (0, u "serialVersionUID"), (0, u "J")] 20

def k20m0 : Method := { name := "<init>", desc := "()V", sig := { parameters := [], returnType := none }, accessFlags := 1, code := none }
/-- java/lang/Number -/
def k20 : Class := { plain "java/lang/Number" (some 0) with
  accessFlags := 1057
  interfaces := #[10]
  cf := some (fileOf pool20 8 #[] #[{ accessFlags := 1, nameIndex := 5, descriptorIndex := 6, attributes := #[] }] 1057 2 #[13] #[{ accessFlags := 26, nameIndex := 15, descriptorIndex := 16, attributes := #[] }])
  fields := #[{ name := "serialVersionUID", type := .long, accessFlags := 26, slot := 0, constantValue := 0 }]
  methods := #[k20m0]
  instanceTypes := #[]
  staticTypes := #[.long]
  resolved := Array.replicate 37 none
  statics := none }

def pool21 : Array CpInfo := pool [(1, .class_ 2), (0, u "java/lang/Integer"), (16, u "digits"), (0, u "[C"), (33, u "(I)I"), (30, u "DigitOnes"), (0, u "[B"), (2, u "DigitTens"), (99, .class_ 190), (0, u "java/lang/Integer$IntegerCache"), (3, u "I"), (8, .class_ 204), (0, u "java/lang/Number"), (2, u "value"), (94, u "TYPE"), (0, u "Ljava/lang/Class;"), (0, .class_ 305), (0, u "java/lang/Comparable"), (0, .class_ 307), (0, u "java/lang/constant/Constable"), (0, .class_ 309), (0, u "java/lang/constant/ConstantDesc"), (0, u "MIN_VALUE"), (1, u "MAX_VALUE"), (3, u "SIZE"), (1, u "BYTES"), (1, u "serialVersionUID"), (0, u "J"), (84, u "numberOfTrailingZeros")] 46

def k21c0 : Code := { maxStack := 3, maxLocals := 2, code := jdk_33_method_48_code, exceptionTable := #[], attributes := #[] }
def k21m0 : Method := { name := "numberOfTrailingZeros", desc := "(I)I", sig := { parameters := [.int], returnType := some .int }, accessFlags := 9, code := some k21c0 }
/-- java/lang/Integer -/
def k21 : Class := { plain "java/lang/Integer" (some 20) with
  accessFlags := 49
  interfaces := #[2, 12, 13]
  cf := some (fileOf pool21 1 #[.nestMembers #[189]] #[{ accessFlags := 9, nameIndex := 406, descriptorIndex := 54, attributes := #[] }] 49 203 #[304, 306, 308] #[{ accessFlags := 25, nameIndex := 310, descriptorIndex := 194, attributes := #[] }, { accessFlags := 25, nameIndex := 312, descriptorIndex := 194, attributes := #[] }, { accessFlags := 25, nameIndex := 302, descriptorIndex := 303, attributes := #[] }, { accessFlags := 24, nameIndex := 19, descriptorIndex := 20, attributes := #[] }, { accessFlags := 24, nameIndex := 89, descriptorIndex := 86, attributes := #[] }, { accessFlags := 24, nameIndex := 85, descriptorIndex := 86, attributes := #[] }, { accessFlags := 18, nameIndex := 207, descriptorIndex := 194, attributes := #[] }, { accessFlags := 25, nameIndex := 316, descriptorIndex := 194, attributes := #[] }, { accessFlags := 25, nameIndex := 318, descriptorIndex := 194, attributes := #[] }, { accessFlags := 26, nameIndex := 320, descriptorIndex := 321, attributes := #[] }])
  fields := #[{ name := "MIN_VALUE", type := .int, accessFlags := 25, slot := 0, constantValue := 0 }, { name := "MAX_VALUE", type := .int, accessFlags := 25, slot := 1, constantValue := 0 }, { name := "TYPE", type := (.object "java/lang/Class"), accessFlags := 25, slot := 2, constantValue := 0 }, { name := "digits", type := (.array .char), accessFlags := 24, slot := 3, constantValue := 0 }, { name := "DigitTens", type := (.array .byte), accessFlags := 24, slot := 4, constantValue := 0 }, { name := "DigitOnes", type := (.array .byte), accessFlags := 24, slot := 5, constantValue := 0 }, { name := "value", type := .int, accessFlags := 18, slot := 0, constantValue := 0 }, { name := "SIZE", type := .int, accessFlags := 25, slot := 6, constantValue := 0 }, { name := "BYTES", type := .int, accessFlags := 25, slot := 7, constantValue := 0 }, { name := "serialVersionUID", type := .long, accessFlags := 26, slot := 8, constantValue := 0 }]
  methods := #[k21m0]
  instanceTypes := #[.int]
  staticTypes := #[.int, .int, (.object "java/lang/Class"), (.array .char), (.array .byte), (.array .byte), .int, .int, .long]
  resolved := Array.replicate 453 none
  statics := none }

/-- the primitive boolean -/
def k22 : Class := { plain "boolean" none with kind := .primitive 'Z', accessFlags := 0x411 }
/-- [Z -/
def k23 : Class := { plain "[Z" (some 0) with kind := .array 22 .boolean, interfaces := #[4, 10], accessFlags := 1041 }

/-- the primitive byte -/
def k24 : Class := { plain "byte" none with kind := .primitive 'B', accessFlags := 0x411 }
/-- [B -/
def k25 : Class := { plain "[B" (some 0) with kind := .array 24 .byte, interfaces := #[4, 10], accessFlags := 1041 }

/-- the primitive int -/
def k26 : Class := { plain "int" none with kind := .primitive 'I', accessFlags := 0x411 }
/-- [I -/
def k27 : Class := { plain "[I" (some 0) with kind := .array 26 .int, interfaces := #[4, 10], accessFlags := 1041 }

/-- the primitive long -/
def k28 : Class := { plain "long" none with kind := .primitive 'J', accessFlags := 0x411 }
/-- [J -/
def k29 : Class := { plain "[J" (some 0) with kind := .array 28 .long, interfaces := #[4, 10], accessFlags := 1041 }

/-- [Lcom/example/tracemass/tracemass/nets/Marking; -/
def k30 : Class := { plain "[Lcom/example/tracemass/tracemass/nets/Marking;" (some 0) with kind := .array 3 (.object "com/example/tracemass/tracemass/nets/Marking"), interfaces := #[4, 10], accessFlags := 1041 }

/-- [[I -/
def k31 : Class := { plain "[[I" (some 0) with kind := .array 27 (.array .int), interfaces := #[4, 10], accessFlags := 1041 }
/-- [[[I -/
def k32 : Class := { plain "[[[I" (some 0) with kind := .array 31 (.array (.array .int)), interfaces := #[4, 10], accessFlags := 1041 }

def heap : Heap := #[{ cls := 9, slots := #[.ref 2, .int 0], vm := .statics 9 },
  { cls := 16, slots := #[.ref 3, .null, .null, .null], vm := .statics 16 },
  { cls := 9, slots := #[.int 1], vm := .none },
  { cls := 16, slots := #[.null, .int 0, .int 0], vm := .none }]
def classes : Array Class := #[k0, k1, k2, k3, k4, k5, k6, k7, k8, k9, k10, k11, k12, k13, k14, k15, k16, k17, k18, k19, k20, k21, k22, k23, k24, k25, k26, k27, k28, k29, k30, k31, k32]
def interned : List (Array UInt16 × Addr) := []
def slotsUsed : Nat := 10
def theMethod : MethodId := ⟨1, 1⟩
def args0 : Array Value := #[.int 3, .int 1, .int 2, .int 5, .int 4, .int 6]
def aboutOver (below : List Frame) : State where
  vm := { classes := classes, interned := interned.toArray }
  heap := heap
  slotsUsed := slotsUsed
  threads := #[{ frames := .invoking theMethod args0 :: below }]
def below0 : List Frame := [.native { method := ⟨0, 0⟩, args := #[] }]
def about1 : State := aboutOver below0
def p0 : Program := .bare "" "" ""
def e0 : Env := launch0.env 0 0 0
theorem w_frames : about1.frames = Frame.invoking theMethod args0 :: below0 := rfl
set_option maxRecDepth 65536 in
theorem w_args : argsFit about1.vm theMethod args0 = true := by decide +kernel
set_option maxRecDepth 65536 in
theorem w_heap : heapFits about1 = true := by decide +kernel
set_option maxRecDepth 65536 in
theorem w_runnable : about1.curStatus? = some .runnable := by decide +kernel
set_option maxRecDepth 65536 in
theorem w_alone : about1.alone = true := by decide +kernel
set_option maxRecDepth 65536 in
theorem w_named : about1.methodNamed? x = some theMethod := by decide +kernel
set_option maxRecDepth 65536 in
theorem w_hears : about1.hears theMethod below0 = true := by decide +kernel
set_option maxRecDepth 65536 in
theorem w_ripe : about1.ripe theMethod args0 below0 = true := by decide +kernel
theorem w_running : about1.status = .running := rfl
set_option maxRecDepth 65536 in
theorem w_room : about1.hasRoom e0.platform room_1 = true :=
  launch0.hasRoom_least _ room_1 (by decide +kernel) (by decide +kernel) (by decide +kernel) (by decide +kernel) (by decide +kernel) (by decide +kernel)
theorem allAtoms_all (ts : List Jvm.Cond) (a : Array Jvm.Value) (st : Jvm.State) : (allAtoms ts).before a st = ts.all (fun c => c.before a st) := by
  induction ts with
  | nil => rfl
  | cons c t ih =>
    show (Jvm.Cond.and c (allAtoms t)).before a st = _
    rw [Jvm.Cond.before_and, ih, List.all_cons]
def words1 : List Jvm.Cond := Jvm.Cond.code x code maxLocals ret :: tables_1
/-- a 'code' word, met by the world's own term for the bytes: nothing is compared byte by byte -/
theorem code_word {y : MethodName} {bytes : ByteArray} {mx : Nat} {rt : Option FieldType} {a : Array Value} {s : State} {m : MethodId} {meth : Method} {c : Code} (h1 : s.methodNamed? y = some m) (h2 : s.vm.method? m = some meth) (h3 : meth.code = some c) (h4 : c.code = bytes)
    (h5 : (c.maxLocals == mx && c.exceptionTable.isEmpty && decide (c.maxStack ≤ mostOperands) && decide (meth.sig.returnType = rt) && !meth.locks && decide (parseMethodDescriptor y.desc = some meth.sig)) = true) : (Jvm.Cond.code y bytes mx rt).before a s = true := by
  simp only [Bool.and_eq_true, beq_iff_eq, Bool.not_eq_true', decide_eq_true_eq] at h5
  obtain ⟨⟨⟨⟨⟨g1, g2⟩, g3⟩, g4⟩, g5⟩, g6⟩ := h5
  simp [Cond.before, Cond.holds, Cond.value, h1, h2, h3, h4, g1, g2, g3, g4, g5, g6]
def isCode : Jvm.Cond → Bool
  | .code _ _ _ _ => true
  | _ => false
theorem all_split {L : List Jvm.Cond} {P : Jvm.Cond → Bool} (h1 : L.all (fun c => isCode c || P c) = true) (h2 : ∀ c ∈ L.filter isCode, P c = true) : L.all P = true := by
  refine List.all_eq_true.mpr fun c hc => ?_
  have h := List.all_eq_true.mp h1 c hc
  rcases Bool.eq_false_or_eq_true (isCode c) with hi | hi
  · exact h2 c (List.mem_filter.mpr ⟨hc, hi⟩)
  · simpa [hi] using h
set_option maxRecDepth 65536 in
theorem w_c0 : (Jvm.Cond.code x code maxLocals ret).before args0 about1 = true := code_word (m := ⟨1, 1⟩) (meth := k1m1) (c := k1c1) (by decide +kernel) rfl rfl rfl (by decide +kernel)
set_option maxRecDepth 65536 in
theorem w_c1 : (Jvm.Cond.code ({ cls := "com/example/tracemass/tracemass/nets/Marking", name := "of", desc := "([I)Lcom/example/tracemass/tracemass/nets/Marking;" } : Jvm.MethodName) prog_38_method_2_code (6 : Nat) (Option.some (Jvm.ClassFile.FieldType.object "com/example/tracemass/tracemass/nets/Marking"))).before args0 about1 = true := code_word (m := ⟨3, 1⟩) (meth := k3m1) (c := k3c1) (by decide +kernel) rfl rfl rfl (by decide +kernel)
set_option maxRecDepth 65536 in
theorem w_c2 : (Jvm.Cond.code ({ cls := "com/example/tracemass/tracemass/nets/Marking", name := "keptPlaceByPlace", desc := "(II)Z" } : Jvm.MethodName) prog_38_method_6_code (2 : Nat) (Option.some Jvm.ClassFile.FieldType.boolean)).before args0 about1 = true := code_word (m := ⟨3, 3⟩) (meth := k3m3) (c := k3c3) (by decide +kernel) rfl rfl rfl (by decide +kernel)
set_option maxRecDepth 65536 in
theorem w_c3 : (Jvm.Cond.code ({ cls := "com/example/tracemass/tracemass/nets/Marking", name := "ofCounts", desc := "([II)Lcom/example/tracemass/tracemass/nets/Marking;" } : Jvm.MethodName) prog_38_method_3_code (7 : Nat) (Option.some (Jvm.ClassFile.FieldType.object "com/example/tracemass/tracemass/nets/Marking"))).before args0 about1 = true := code_word (m := ⟨3, 2⟩) (meth := k3m2) (c := k3c2) (by decide +kernel) rfl rfl rfl (by decide +kernel)
set_option maxRecDepth 65536 in
theorem w_c4 : (Jvm.Cond.code ({ cls := "com/example/tracemass/tracemass/nets/Marking", name := "<init>", desc := "(I[I[II)V" } : Jvm.MethodName) prog_38_method_1_code (5 : Nat) (Option.none : Option Jvm.ClassFile.FieldType)).before args0 about1 = true := code_word (m := ⟨3, 0⟩) (meth := k3m0) (c := k3c0) (by decide +kernel) rfl rfl rfl (by decide +kernel)
set_option maxRecDepth 65536 in
theorem w_c5 : (Jvm.Cond.code ({ cls := "java/lang/Object", name := "<init>", desc := "()V" } : Jvm.MethodName) object_method_1_code (1 : Nat) (Option.none : Option Jvm.ClassFile.FieldType)).before args0 about1 = true := code_word (m := ⟨0, 0⟩) (meth := k0m0) (c := k0c0) (by decide +kernel) rfl rfl rfl (by decide +kernel)
set_option maxRecDepth 65536 in
theorem w_c6 : (Jvm.Cond.code ({ cls := "java/util/Arrays", name := "hashCode", desc := "([I)I" } : Jvm.MethodName) jdk_65_method_150_code (1 : Nat) (Option.some Jvm.ClassFile.FieldType.int)).before args0 about1 = true := code_word (m := ⟨5, 1⟩) (meth := k5m1) (c := k5c1) (by decide +kernel) rfl rfl rfl (by decide +kernel)
set_option maxRecDepth 65536 in
theorem w_c7 : (Jvm.Cond.code ({ cls := "jdk/internal/util/ArraysSupport", name := "vectorizedHashCode", desc := "(Ljava/lang/Object;IIII)I" } : Jvm.MethodName) jdk_48_method_4_code (5 : Nat) (Option.some Jvm.ClassFile.FieldType.int)).before args0 about1 = true := code_word (m := ⟨6, 1⟩) (meth := k6m1) (c := k6c1) (by decide +kernel) rfl rfl rfl (by decide +kernel)
set_option maxRecDepth 65536 in
theorem w_c8 : (Jvm.Cond.code ({ cls := "jdk/internal/util/ArraysSupport", name := "hashCode", desc := "(I[III)I" } : Jvm.MethodName) jdk_48_method_9_code (6 : Nat) (Option.some Jvm.ClassFile.FieldType.int)).before args0 about1 = true := code_word (m := ⟨6, 2⟩) (meth := k6m2) (c := k6c2) (by decide +kernel) rfl rfl rfl (by decide +kernel)
set_option maxRecDepth 65536 in
theorem w_c9 : (Jvm.Cond.code ({ cls := "com/example/tracemass/tracemass/numbers/Work", name := "<init>", desc := "(Lcom/example/tracemass/tracemass/numbers/Work$Limits;)V" } : Jvm.MethodName) prog_63_method_1_code (2 : Nat) (Option.none : Option Jvm.ClassFile.FieldType)).before args0 about1 = true := code_word (m := ⟨7, 0⟩) (meth := k7m0) (c := k7c0) (by decide +kernel) rfl rfl rfl (by decide +kernel)
set_option maxRecDepth 65536 in
theorem w_c10 : (Jvm.Cond.code ({ cls := "com/example/tracemass/tracemass/numbers/Work", name := "<init>", desc := "(Lcom/example/tracemass/tracemass/numbers/Work$Limits;Ljava/lang/String;)V" } : Jvm.MethodName) prog_63_method_2_code (3 : Nat) (Option.none : Option Jvm.ClassFile.FieldType)).before args0 about1 = true := code_word (m := ⟨7, 1⟩) (meth := k7m1) (c := k7c1) (by decide +kernel) rfl rfl rfl (by decide +kernel)
set_option maxRecDepth 65536 in
theorem w_c11 : (Jvm.Cond.code ({ cls := "com/example/tracemass/tracemass/qstates/SilentPath", name := "<init>", desc := "([I)V" } : Jvm.MethodName) prog_86_method_1_code (7 : Nat) (Option.none : Option Jvm.ClassFile.FieldType)).before args0 about1 = true := code_word (m := ⟨17, 0⟩) (meth := k17m0) (c := k17c0) (by decide +kernel) rfl rfl rfl (by decide +kernel)
set_option maxRecDepth 65536 in
theorem w_c12 : (Jvm.Cond.code ({ cls := "com/example/tracemass/tracemass/qstates/SilentPath$Pairs", name := "<init>", desc := "()V" } : Jvm.MethodName) prog_87_method_1_code (1 : Nat) (Option.none : Option Jvm.ClassFile.FieldType)).before args0 about1 = true := code_word (m := ⟨18, 0⟩) (meth := k18m0) (c := k18c0) (by decide +kernel) rfl rfl rfl (by decide +kernel)
set_option maxRecDepth 65536 in
theorem w_c13 : (Jvm.Cond.code ({ cls := "java/lang/Math", name := "max", desc := "(II)I" } : Jvm.MethodName) jdk_29_method_65_code (2 : Nat) (Option.some Jvm.ClassFile.FieldType.int)).before args0 about1 = true := code_word (m := ⟨19, 1⟩) (meth := k19m1) (c := k19c1) (by decide +kernel) rfl rfl rfl (by decide +kernel)
set_option maxRecDepth 65536 in
theorem w_c14 : (Jvm.Cond.code ({ cls := "com/example/tracemass/tracemass/qstates/SilentPath", name := "add", desc := "(Lcom/example/tracemass/tracemass/nets/Marking;)V" } : Jvm.MethodName) prog_86_method_2_code (6 : Nat) (Option.none : Option Jvm.ClassFile.FieldType)).before args0 about1 = true := code_word (m := ⟨17, 1⟩) (meth := k17m1) (c := k17c1) (by decide +kernel) rfl rfl rfl (by decide +kernel)
set_option maxRecDepth 65536 in
theorem w_c15 : (Jvm.Cond.code ({ cls := "com/example/tracemass/tracemass/qstates/SilentPath", name := "comparedTotal", desc := "(Lcom/example/tracemass/tracemass/nets/Marking;)J" } : Jvm.MethodName) prog_86_method_6_code (6 : Nat) (Option.some Jvm.ClassFile.FieldType.long)).before args0 about1 = true := code_word (m := ⟨17, 4⟩) (meth := k17m4) (c := k17c4) (by decide +kernel) rfl rfl rfl (by decide +kernel)
set_option maxRecDepth 65536 in
theorem w_c16 : (Jvm.Cond.code ({ cls := "com/example/tracemass/tracemass/nets/Marking", name := "entries", desc := "()I" } : Jvm.MethodName) prog_38_method_10_code (1 : Nat) (Option.some Jvm.ClassFile.FieldType.int)).before args0 about1 = true := code_word (m := ⟨3, 5⟩) (meth := k3m5) (c := k3c5) (by decide +kernel) rfl rfl rfl (by decide +kernel)
set_option maxRecDepth 65536 in
theorem w_c17 : (Jvm.Cond.code ({ cls := "com/example/tracemass/tracemass/nets/Marking", name := "entryPlace", desc := "(I)I" } : Jvm.MethodName) prog_38_method_11_code (2 : Nat) (Option.some Jvm.ClassFile.FieldType.int)).before args0 about1 = true := code_word (m := ⟨3, 6⟩) (meth := k3m6) (c := k3c6) (by decide +kernel) rfl rfl rfl (by decide +kernel)
set_option maxRecDepth 65536 in
theorem w_c18 : (Jvm.Cond.code ({ cls := "com/example/tracemass/tracemass/nets/Marking", name := "entryTokens", desc := "(I)I" } : Jvm.MethodName) prog_38_method_12_code (2 : Nat) (Option.some Jvm.ClassFile.FieldType.int)).before args0 about1 = true := code_word (m := ⟨3, 7⟩) (meth := k3m7) (c := k3c7) (by decide +kernel) rfl rfl rfl (by decide +kernel)
set_option maxRecDepth 65536 in
theorem w_c19 : (Jvm.Cond.code ({ cls := "java/lang/Math", name := "min", desc := "(JJ)J" } : Jvm.MethodName) jdk_29_method_70_code (4 : Nat) (Option.some Jvm.ClassFile.FieldType.long)).before args0 about1 = true := code_word (m := ⟨19, 3⟩) (meth := k19m3) (c := k19c3) (by decide +kernel) rfl rfl rfl (by decide +kernel)
set_option maxRecDepth 65536 in
theorem w_c20 : (Jvm.Cond.code ({ cls := "com/example/tracemass/tracemass/qstates/SilentPath", name := "removeLast", desc := "()V" } : Jvm.MethodName) prog_86_method_3_code (1 : Nat) (Option.none : Option Jvm.ClassFile.FieldType)).before args0 about1 = true := code_word (m := ⟨17, 2⟩) (meth := k17m2) (c := k17c2) (by decide +kernel) rfl rfl rfl (by decide +kernel)
set_option maxRecDepth 65536 in
theorem w_c21 : (Jvm.Cond.code ({ cls := "com/example/tracemass/tracemass/qstates/SilentPath", name := "latestCoveredBy", desc := "(Lcom/example/tracemass/tracemass/nets/Marking;Lcom/example/tracemass/tracemass/numbers/Work;)Lcom/example/tracemass/tracemass/nets/Marking;" } : Jvm.MethodName) prog_86_method_5_code (6 : Nat) (Option.some (Jvm.ClassFile.FieldType.object "com/example/tracemass/tracemass/nets/Marking"))).before args0 about1 = true := code_word (m := ⟨17, 3⟩) (meth := k17m3) (c := k17c3) (by decide +kernel) rfl rfl rfl (by decide +kernel)
set_option maxRecDepth 65536 in
theorem w_c22 : (Jvm.Cond.code ({ cls := "com/example/tracemass/tracemass/qstates/SilentPath$Pairs", name := "read", desc := "(Lcom/example/tracemass/tracemass/nets/Marking;[ZI)V" } : Jvm.MethodName) prog_87_method_2_code (7 : Nat) (Option.none : Option Jvm.ClassFile.FieldType)).before args0 about1 = true := code_word (m := ⟨18, 1⟩) (meth := k18m1) (c := k18c1) (by decide +kernel) rfl rfl rfl (by decide +kernel)
set_option maxRecDepth 65536 in
theorem w_c23 : (Jvm.Cond.code ({ cls := "com/example/tracemass/tracemass/nets/Marking", name := "marked", desc := "()I" } : Jvm.MethodName) prog_38_method_9_code (1 : Nat) (Option.some Jvm.ClassFile.FieldType.int)).before args0 about1 = true := code_word (m := ⟨3, 4⟩) (meth := k3m4) (c := k3c4) (by decide +kernel) rfl rfl rfl (by decide +kernel)
set_option maxRecDepth 65536 in
theorem w_c24 : (Jvm.Cond.code ({ cls := "java/lang/Math", name := "min", desc := "(II)I" } : Jvm.MethodName) jdk_29_method_69_code (2 : Nat) (Option.some Jvm.ClassFile.FieldType.int)).before args0 about1 = true := code_word (m := ⟨19, 2⟩) (meth := k19m2) (c := k19c2) (by decide +kernel) rfl rfl rfl (by decide +kernel)
set_option maxRecDepth 65536 in
theorem w_c25 : (Jvm.Cond.code ({ cls := "java/lang/Integer", name := "numberOfTrailingZeros", desc := "(I)I" } : Jvm.MethodName) jdk_33_method_48_code (2 : Nat) (Option.some Jvm.ClassFile.FieldType.int)).before args0 about1 = true := code_word (m := ⟨21, 0⟩) (meth := k21m0) (c := k21c0) (by decide +kernel) rfl rfl rfl (by decide +kernel)
set_option maxRecDepth 65536 in
theorem w_c26 : (Jvm.Cond.code ({ cls := "com/example/tracemass/tracemass/numbers/Work", name := "compare", desc := "(I)Z" } : Jvm.MethodName) prog_63_method_6_code (2 : Nat) (Option.some Jvm.ClassFile.FieldType.boolean)).before args0 about1 = true := code_word (m := ⟨7, 2⟩) (meth := k7m2) (c := k7c2) (by decide +kernel) rfl rfl rfl (by decide +kernel)
set_option maxRecDepth 65536 in
theorem w_c27 : (Jvm.Cond.code ({ cls := "com/example/tracemass/tracemass/numbers/Work$Limits", name := "comparisons", desc := "()J" } : Jvm.MethodName) prog_64_method_6_code (1 : Nat) (Option.some Jvm.ClassFile.FieldType.long)).before args0 about1 = true := code_word (m := ⟨9, 0⟩) (meth := k9m0) (c := k9c0) (by decide +kernel) rfl rfl rfl (by decide +kernel)
set_option maxRecDepth 65536 in
theorem w_c28 : (Jvm.Cond.code ({ cls := "com/example/tracemass/tracemass/qstates/SilentPath$Pairs", name := "covers", desc := "([II)Z" } : Jvm.MethodName) prog_87_method_3_code (5 : Nat) (Option.some Jvm.ClassFile.FieldType.boolean)).before args0 about1 = true := code_word (m := ⟨18, 2⟩) (meth := k18m2) (c := k18c2) (by decide +kernel) rfl rfl rfl (by decide +kernel)
set_option maxRecDepth 65536 in
theorem w_c29 : (Jvm.Cond.code ({ cls := "com/example/tracemass/tracemass/qstates/SilentPath$Pairs", name := "indexFrom", desc := "(II)I" } : Jvm.MethodName) prog_87_method_4_code (8 : Nat) (Option.some Jvm.ClassFile.FieldType.int)).before args0 about1 = true := code_word (m := ⟨18, 3⟩) (meth := k18m3) (c := k18c3) (by decide +kernel) rfl rfl rfl (by decide +kernel)
set_option maxRecDepth 65536 in
theorem w_c30 : (Jvm.Cond.code ({ cls := "com/example/tracemass/tracemass/nets/Marking", name := "sparseHash", desc := "(I[I[I)I" } : Jvm.MethodName) prog_38_method_18_code (6 : Nat) (Option.some Jvm.ClassFile.FieldType.int)).before args0 about1 = true := code_word (m := ⟨3, 8⟩) (meth := k3m8) (c := k3c8) (by decide +kernel) rfl rfl rfl (by decide +kernel)
set_option maxRecDepth 65536 in
theorem w_c31 : (Jvm.Cond.code ({ cls := "com/example/tracemass/tracemass/nets/Marking", name := "power31", desc := "(I)I" } : Jvm.MethodName) prog_38_method_19_code (4 : Nat) (Option.some Jvm.ClassFile.FieldType.int)).before args0 about1 = true := code_word (m := ⟨3, 9⟩) (meth := k3m9) (c := k3c9) (by decide +kernel) rfl rfl rfl (by decide +kernel)
def codes1 : List Jvm.Cond := [Jvm.Cond.code x code maxLocals ret, Jvm.Cond.code ({ cls := "com/example/tracemass/tracemass/nets/Marking", name := "of", desc := "([I)Lcom/example/tracemass/tracemass/nets/Marking;" } : Jvm.MethodName) prog_38_method_2_code (6 : Nat) (Option.some (Jvm.ClassFile.FieldType.object "com/example/tracemass/tracemass/nets/Marking")), Jvm.Cond.code ({ cls := "com/example/tracemass/tracemass/nets/Marking", name := "keptPlaceByPlace", desc := "(II)Z" } : Jvm.MethodName) prog_38_method_6_code (2 : Nat) (Option.some Jvm.ClassFile.FieldType.boolean), Jvm.Cond.code ({ cls := "com/example/tracemass/tracemass/nets/Marking", name := "ofCounts", desc := "([II)Lcom/example/tracemass/tracemass/nets/Marking;" } : Jvm.MethodName) prog_38_method_3_code (7 : Nat) (Option.some (Jvm.ClassFile.FieldType.object "com/example/tracemass/tracemass/nets/Marking")), Jvm.Cond.code ({ cls := "com/example/tracemass/tracemass/nets/Marking", name := "<init>", desc := "(I[I[II)V" } : Jvm.MethodName) prog_38_method_1_code (5 : Nat) (Option.none : Option Jvm.ClassFile.FieldType), Jvm.Cond.code ({ cls := "java/lang/Object", name := "<init>", desc := "()V" } : Jvm.MethodName) object_method_1_code (1 : Nat) (Option.none : Option Jvm.ClassFile.FieldType), Jvm.Cond.code ({ cls := "java/util/Arrays", name := "hashCode", desc := "([I)I" } : Jvm.MethodName) jdk_65_method_150_code (1 : Nat) (Option.some Jvm.ClassFile.FieldType.int), Jvm.Cond.code ({ cls := "jdk/internal/util/ArraysSupport", name := "vectorizedHashCode", desc := "(Ljava/lang/Object;IIII)I" } : Jvm.MethodName) jdk_48_method_4_code (5 : Nat) (Option.some Jvm.ClassFile.FieldType.int), Jvm.Cond.code ({ cls := "jdk/internal/util/ArraysSupport", name := "hashCode", desc := "(I[III)I" } : Jvm.MethodName) jdk_48_method_9_code (6 : Nat) (Option.some Jvm.ClassFile.FieldType.int), Jvm.Cond.code ({ cls := "com/example/tracemass/tracemass/numbers/Work", name := "<init>", desc := "(Lcom/example/tracemass/tracemass/numbers/Work$Limits;)V" } : Jvm.MethodName) prog_63_method_1_code (2 : Nat) (Option.none : Option Jvm.ClassFile.FieldType), Jvm.Cond.code ({ cls := "com/example/tracemass/tracemass/numbers/Work", name := "<init>", desc := "(Lcom/example/tracemass/tracemass/numbers/Work$Limits;Ljava/lang/String;)V" } : Jvm.MethodName) prog_63_method_2_code (3 : Nat) (Option.none : Option Jvm.ClassFile.FieldType), Jvm.Cond.code ({ cls := "com/example/tracemass/tracemass/qstates/SilentPath", name := "<init>", desc := "([I)V" } : Jvm.MethodName) prog_86_method_1_code (7 : Nat) (Option.none : Option Jvm.ClassFile.FieldType), Jvm.Cond.code ({ cls := "com/example/tracemass/tracemass/qstates/SilentPath$Pairs", name := "<init>", desc := "()V" } : Jvm.MethodName) prog_87_method_1_code (1 : Nat) (Option.none : Option Jvm.ClassFile.FieldType), Jvm.Cond.code ({ cls := "java/lang/Math", name := "max", desc := "(II)I" } : Jvm.MethodName) jdk_29_method_65_code (2 : Nat) (Option.some Jvm.ClassFile.FieldType.int), Jvm.Cond.code ({ cls := "com/example/tracemass/tracemass/qstates/SilentPath", name := "add", desc := "(Lcom/example/tracemass/tracemass/nets/Marking;)V" } : Jvm.MethodName) prog_86_method_2_code (6 : Nat) (Option.none : Option Jvm.ClassFile.FieldType), Jvm.Cond.code ({ cls := "com/example/tracemass/tracemass/qstates/SilentPath", name := "comparedTotal", desc := "(Lcom/example/tracemass/tracemass/nets/Marking;)J" } : Jvm.MethodName) prog_86_method_6_code (6 : Nat) (Option.some Jvm.ClassFile.FieldType.long), Jvm.Cond.code ({ cls := "com/example/tracemass/tracemass/nets/Marking", name := "entries", desc := "()I" } : Jvm.MethodName) prog_38_method_10_code (1 : Nat) (Option.some Jvm.ClassFile.FieldType.int), Jvm.Cond.code ({ cls := "com/example/tracemass/tracemass/nets/Marking", name := "entryPlace", desc := "(I)I" } : Jvm.MethodName) prog_38_method_11_code (2 : Nat) (Option.some Jvm.ClassFile.FieldType.int), Jvm.Cond.code ({ cls := "com/example/tracemass/tracemass/nets/Marking", name := "entryTokens", desc := "(I)I" } : Jvm.MethodName) prog_38_method_12_code (2 : Nat) (Option.some Jvm.ClassFile.FieldType.int), Jvm.Cond.code ({ cls := "java/lang/Math", name := "min", desc := "(JJ)J" } : Jvm.MethodName) jdk_29_method_70_code (4 : Nat) (Option.some Jvm.ClassFile.FieldType.long), Jvm.Cond.code ({ cls := "com/example/tracemass/tracemass/qstates/SilentPath", name := "removeLast", desc := "()V" } : Jvm.MethodName) prog_86_method_3_code (1 : Nat) (Option.none : Option Jvm.ClassFile.FieldType), Jvm.Cond.code ({ cls := "com/example/tracemass/tracemass/qstates/SilentPath", name := "latestCoveredBy", desc := "(Lcom/example/tracemass/tracemass/nets/Marking;Lcom/example/tracemass/tracemass/numbers/Work;)Lcom/example/tracemass/tracemass/nets/Marking;" } : Jvm.MethodName) prog_86_method_5_code (6 : Nat) (Option.some (Jvm.ClassFile.FieldType.object "com/example/tracemass/tracemass/nets/Marking")), Jvm.Cond.code ({ cls := "com/example/tracemass/tracemass/qstates/SilentPath$Pairs", name := "read", desc := "(Lcom/example/tracemass/tracemass/nets/Marking;[ZI)V" } : Jvm.MethodName) prog_87_method_2_code (7 : Nat) (Option.none : Option Jvm.ClassFile.FieldType), Jvm.Cond.code ({ cls := "com/example/tracemass/tracemass/nets/Marking", name := "marked", desc := "()I" } : Jvm.MethodName) prog_38_method_9_code (1 : Nat) (Option.some Jvm.ClassFile.FieldType.int), Jvm.Cond.code ({ cls := "java/lang/Math", name := "min", desc := "(II)I" } : Jvm.MethodName) jdk_29_method_69_code (2 : Nat) (Option.some Jvm.ClassFile.FieldType.int), Jvm.Cond.code ({ cls := "java/lang/Integer", name := "numberOfTrailingZeros", desc := "(I)I" } : Jvm.MethodName) jdk_33_method_48_code (2 : Nat) (Option.some Jvm.ClassFile.FieldType.int), Jvm.Cond.code ({ cls := "com/example/tracemass/tracemass/numbers/Work", name := "compare", desc := "(I)Z" } : Jvm.MethodName) prog_63_method_6_code (2 : Nat) (Option.some Jvm.ClassFile.FieldType.boolean), Jvm.Cond.code ({ cls := "com/example/tracemass/tracemass/numbers/Work$Limits", name := "comparisons", desc := "()J" } : Jvm.MethodName) prog_64_method_6_code (1 : Nat) (Option.some Jvm.ClassFile.FieldType.long), Jvm.Cond.code ({ cls := "com/example/tracemass/tracemass/qstates/SilentPath$Pairs", name := "covers", desc := "([II)Z" } : Jvm.MethodName) prog_87_method_3_code (5 : Nat) (Option.some Jvm.ClassFile.FieldType.boolean), Jvm.Cond.code ({ cls := "com/example/tracemass/tracemass/qstates/SilentPath$Pairs", name := "indexFrom", desc := "(II)I" } : Jvm.MethodName) prog_87_method_4_code (8 : Nat) (Option.some Jvm.ClassFile.FieldType.int), Jvm.Cond.code ({ cls := "com/example/tracemass/tracemass/nets/Marking", name := "sparseHash", desc := "(I[I[I)I" } : Jvm.MethodName) prog_38_method_18_code (6 : Nat) (Option.some Jvm.ClassFile.FieldType.int), Jvm.Cond.code ({ cls := "com/example/tracemass/tracemass/nets/Marking", name := "power31", desc := "(I)I" } : Jvm.MethodName) prog_38_method_19_code (4 : Nat) (Option.some Jvm.ClassFile.FieldType.int)]
set_option maxRecDepth 65536 in
theorem codes_eq : words1.filter isCode = codes1 := rfl
theorem w_codes : ∀ c ∈ words1.filter isCode, c.before args0 about1 = true := by
  rw [codes_eq]
  intro c hc
  simp only [codes1, List.mem_cons, List.not_mem_nil, or_false] at hc
  rcases hc with rfl | rfl | rfl | rfl | rfl | rfl | rfl | rfl | rfl | rfl | rfl | rfl | rfl | rfl | rfl | rfl | rfl | rfl | rfl | rfl | rfl | rfl | rfl | rfl | rfl | rfl | rfl | rfl | rfl | rfl | rfl | rfl
  · exact w_c0
  · exact w_c1
  · exact w_c2
  · exact w_c3
  · exact w_c4
  · exact w_c5
  · exact w_c6
  · exact w_c7
  · exact w_c8
  · exact w_c9
  · exact w_c10
  · exact w_c11
  · exact w_c12
  · exact w_c13
  · exact w_c14
  · exact w_c15
  · exact w_c16
  · exact w_c17
  · exact w_c18
  · exact w_c19
  · exact w_c20
  · exact w_c21
  · exact w_c22
  · exact w_c23
  · exact w_c24
  · exact w_c25
  · exact w_c26
  · exact w_c27
  · exact w_c28
  · exact w_c29
  · exact w_c30
  · exact w_c31
set_option maxRecDepth 65536 in
theorem w_t1 : (words1.take 24).all (fun c => isCode c || c.before args0 about1) = true := by decide +kernel
set_option maxRecDepth 65536 in
theorem w_t2 : ((words1.drop 24).take 24).all (fun c => isCode c || c.before args0 about1) = true := by decide +kernel
set_option maxRecDepth 65536 in
theorem w_t3 : (((words1.drop 24).drop 24).take 24).all (fun c => isCode c || c.before args0 about1) = true := by decide +kernel
set_option maxRecDepth 65536 in
theorem w_t4 : ((((words1.drop 24).drop 24).drop 24).take 24).all (fun c => isCode c || c.before args0 about1) = true := by decide +kernel
set_option maxRecDepth 65536 in
theorem w_t5 : (((((words1.drop 24).drop 24).drop 24).drop 24).take 24).all (fun c => isCode c || c.before args0 about1) = true := by decide +kernel
set_option maxRecDepth 65536 in
theorem w_t6 : ((((((words1.drop 24).drop 24).drop 24).drop 24).drop 24).take 24).all (fun c => isCode c || c.before args0 about1) = true := by decide +kernel
set_option maxRecDepth 65536 in
theorem w_t7 : (((((((words1.drop 24).drop 24).drop 24).drop 24).drop 24).drop 24).take 24).all (fun c => isCode c || c.before args0 about1) = true := by decide +kernel
set_option maxRecDepth 65536 in
theorem w_t8 : ((((((((words1.drop 24).drop 24).drop 24).drop 24).drop 24).drop 24).drop 24).take 24).all (fun c => isCode c || c.before args0 about1) = true := by decide +kernel
set_option maxRecDepth 65536 in
theorem w_t9 : (((((((((words1.drop 24).drop 24).drop 24).drop 24).drop 24).drop 24).drop 24).drop 24).take 24).all (fun c => isCode c || c.before args0 about1) = true := by decide +kernel
set_option maxRecDepth 65536 in
theorem w_t10 : (((((((((words1.drop 24).drop 24).drop 24).drop 24).drop 24).drop 24).drop 24).drop 24).drop 24).all (fun c => isCode c || c.before args0 about1) = true := by decide +kernel
theorem w_tables : (allAtoms (Jvm.Cond.code x code maxLocals ret :: tables_1)).before args0 about1 = true := by
  rw [allAtoms_all]
  show words1.all (fun c => c.before args0 about1) = true
  refine all_split ?_ w_codes
  rw [← List.take_append_drop 24 words1, List.all_append, w_t1, ← List.take_append_drop 24 (words1.drop 24), List.all_append, w_t2, ← List.take_append_drop 24 ((words1.drop 24).drop 24), List.all_append, w_t3, ← List.take_append_drop 24 (((words1.drop 24).drop 24).drop 24), List.all_append, w_t4, ← List.take_append_drop 24 ((((words1.drop 24).drop 24).drop 24).drop 24), List.all_append, w_t5, ← List.take_append_drop 24 (((((words1.drop 24).drop 24).drop 24).drop 24).drop 24), List.all_append, w_t6, ← List.take_append_drop 24 ((((((words1.drop 24).drop 24).drop 24).drop 24).drop 24).drop 24), List.all_append, w_t7, ← List.take_append_drop 24 (((((((words1.drop 24).drop 24).drop 24).drop 24).drop 24).drop 24).drop 24), List.all_append, w_t8, ← List.take_append_drop 24 ((((((((words1.drop 24).drop 24).drop 24).drop 24).drop 24).drop 24).drop 24).drop 24), List.all_append, w_t9, w_t10]
  rfl
set_option maxRecDepth 65536 in
theorem w_case : (Jvm.Cond.and given_1 narrow_1).before args0 about1 = true := by decide +kernel
theorem w_applies : (headSpec (Jvm.Cond.code x code maxLocals ret :: tables_1) room_1).applies x e0.platform about1 = true :=
  (Spec.applies_iff w_frames).mpr ⟨w_running, w_runnable, w_alone, w_named, w_hears, w_ripe, w_room, w_tables⟩
theorem atStart : AtStart classFile x code maxLocals ret World_1 tables_1 room_1 Calls_1 rest_1 Pre_1 launch0 p0 e0 about1 theMethod args0 below0 :=
  ⟨lists_1, trivial, launch0.admits_env _ _ _, launch0.least_env, fairChoices_fair.cas, fairChoices_fair.clock, w_frames, w_args, w_heap, w_applies, trivial, trivial, w_case⟩
end start1
theorem witness_1 : WitnessClaimed_1 := ⟨start1.p0, start1.e0, start1.about1, start1.theMethod, start1.args0, start1.below0, start1.atStart⟩
end Jvm.Pilot.@@N@@
