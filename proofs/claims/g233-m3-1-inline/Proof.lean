import JvmDerived
import JvmDerived.Pilot.@@N@@Statement
import JvmDerived.Pilot.@@N@@Code
set_option linter.unusedVariables false
set_option linter.unusedSimpArgs false
namespace Jvm.Pilot.@@N@@
open Jvm Jvm.ClassFile Sem Op Lib Jvm.Free Jvm.Stand Jvm.LawKit Jvm.RoadKit Bundle Jvm.Pilot.@@N@@.Jvm.D
section OwnKit
variable {p : Program} {l : Launch} {e : Env} {R : Room} {s : State} {m : MethodId} {args : Array Value} {below : List Frame} {meth : Method} {c : Code} {T : State} {locs : List Loc} {cells slots : Nat} {bytes : ByteArray} {Φ : State → Prop} {pc pc' : Nat} {Ls Ls' : Array Slot} {rest : List Value} {Z : State} {a0 : Array Value} {h : Heap}
/-- the run from A ends in a state with the property Φ -/
def GoP (p : Program) (e : Env) (below : List Frame) (Φ : State → Prop) (A : State) : Prop := ∃ t, Steps p.tables e below A t ∧ Φ t
theorem own_step {A B : State} (h : ∀ t, Steps p.tables e below B t → Steps p.tables e below A t) (g : GoP p e below Φ B) : GoP p e below Φ A := by
  obtain ⟨t, h1, h2⟩ := g; exact ⟨t, h t h1, h2⟩
theorem own_trans {A B : State} (h : Steps p.tables e below A B) (g : GoP p e below Φ B) : GoP p e below Φ A := by
  obtain ⟨t, h1, h2⟩ := g; exact ⟨t, h.trans h1, h2⟩
theorem own_w {L : List Jvm.Cond} (hw : ∀ d ∈ L, d.before a0 Z = true) (i : Nat) {d : Jvm.Cond} (q : L[i]? = some d) : d.before a0 Z = true := hw d (List.mem_of_getElem? q)

theorem own_iload (X : Stand p l e R s m args below meth c T locs cells slots) (hx : p.tables.exec = Jvm.exec) (hby : c.code = bytes) {k : Nat} {x : Int32} (hd : decode bytes pc = .ok (.iload k, 2)) (hl : Ls[k]? = some (.val (.int x))) (hp : pc + 2 = pc') (k : GoP p e below Φ (T.setTop (mkF m pc' Ls (.int x :: rest)))) : GoP p e below Φ (T.setTop (mkF m pc Ls (rest))) := by
  subst hp
  exact own_step (fun t q => XS.iload X.here hx rfl (hb hby hd) hl q) k
theorem own_iloadN (X : Stand p l e R s m args below meth c T locs cells slots) (hx : p.tables.exec = Jvm.exec) (hby : c.code = bytes) {k : Fin 4} {x : Int32} (hd : decode bytes pc = .ok (.iload_n k, 1)) (hl : Ls[k.val]? = some (.val (.int x))) (hp : pc + 1 = pc') (k : GoP p e below Φ (T.setTop (mkF m pc' Ls (.int x :: rest)))) : GoP p e below Φ (T.setTop (mkF m pc Ls (rest))) := by
  subst hp
  exact own_step (fun t q => XS.iloadN X.here hx rfl (hb hby hd) hl q) k
theorem own_istore (X : Stand p l e R s m args below meth c T locs cells slots) (hx : p.tables.exec = Jvm.exec) (hby : c.code = bytes) {k : Nat} {x : Int32} (hd : decode bytes pc = .ok (.istore k, 2)) (hl : storeLocals Ls k (.int x) = some Ls') (hp : pc + 2 = pc') (k : GoP p e below Φ (T.setTop (mkF m pc' Ls' (rest)))) : GoP p e below Φ (T.setTop (mkF m pc Ls (.int x :: rest))) := by
  subst hp
  exact own_step (fun t q => XS.istore X.here hx rfl (hb hby hd) rfl hl q) k
theorem own_istoreN (X : Stand p l e R s m args below meth c T locs cells slots) (hx : p.tables.exec = Jvm.exec) (hby : c.code = bytes) {k : Fin 4} {x : Int32} (hd : decode bytes pc = .ok (.istore_n k, 1)) (hl : storeLocals Ls k.val (.int x) = some Ls') (hp : pc + 1 = pc') (k : GoP p e below Φ (T.setTop (mkF m pc' Ls' (rest)))) : GoP p e below Φ (T.setTop (mkF m pc Ls (.int x :: rest))) := by
  subst hp
  exact own_step (fun t q => XS.istoreN X.here hx rfl (hb hby hd) rfl hl q) k
theorem own_aload (X : Stand p l e R s m args below meth c T locs cells slots) (hx : p.tables.exec = Jvm.exec) (hby : c.code = bytes) {k : Nat} {x : Value} (hd : decode bytes pc = .ok (.aload k, 2)) (hl : Ls[k]? = some (.val x)) (hr : x.isRef = true) (hp : pc + 2 = pc') (k : GoP p e below Φ (T.setTop (mkF m pc' Ls (x :: rest)))) : GoP p e below Φ (T.setTop (mkF m pc Ls (rest))) := by
  subst hp
  exact own_step (fun t q => XS.aload X.here hx rfl (hb hby hd) hl hr q) k
theorem own_aloadN (X : Stand p l e R s m args below meth c T locs cells slots) (hx : p.tables.exec = Jvm.exec) (hby : c.code = bytes) {k : Fin 4} {x : Value} (hd : decode bytes pc = .ok (.aload_n k, 1)) (hl : Ls[k.val]? = some (.val x)) (hr : x.isRef = true) (hp : pc + 1 = pc') (k : GoP p e below Φ (T.setTop (mkF m pc' Ls (x :: rest)))) : GoP p e below Φ (T.setTop (mkF m pc Ls (rest))) := by
  subst hp
  exact own_step (fun t q => XS.aloadN X.here hx rfl (hb hby hd) hl hr q) k
theorem own_astore (X : Stand p l e R s m args below meth c T locs cells slots) (hx : p.tables.exec = Jvm.exec) (hby : c.code = bytes) {k : Nat} {x : Value} (hd : decode bytes pc = .ok (.astore k, 2)) (hr : x.isRef = true) (hl : storeLocals Ls k x = some Ls') (hp : pc + 2 = pc') (k : GoP p e below Φ (T.setTop (mkF m pc' Ls' (rest)))) : GoP p e below Φ (T.setTop (mkF m pc Ls (x :: rest))) := by
  subst hp
  exact own_step (fun t q => XS.astore X.here hx rfl (hb hby hd) rfl hr hl q) k
theorem own_astoreN (X : Stand p l e R s m args below meth c T locs cells slots) (hx : p.tables.exec = Jvm.exec) (hby : c.code = bytes) {k : Fin 4} {x : Value} (hd : decode bytes pc = .ok (.astore_n k, 1)) (hr : x.isRef = true) (hl : storeLocals Ls k.val x = some Ls') (hp : pc + 1 = pc') (k : GoP p e below Φ (T.setTop (mkF m pc' Ls' (rest)))) : GoP p e below Φ (T.setTop (mkF m pc Ls (x :: rest))) := by
  subst hp
  exact own_step (fun t q => XS.astoreN X.here hx rfl (hb hby hd) rfl hr hl q) k
theorem own_iadd (X : Stand p l e R s m args below meth c T locs cells slots) (hx : p.tables.exec = Jvm.exec) (hby : c.code = bytes) {x y : Int32} (hd : decode bytes pc = .ok (.iadd, 1)) (hp : pc + 1 = pc') (k : GoP p e below Φ (T.setTop (mkF m pc' Ls (.int (x + y) :: rest)))) : GoP p e below Φ (T.setTop (mkF m pc Ls (.int y :: .int x :: rest))) := by
  subst hp
  exact own_step (fun t q => XS.iadd X.here hx rfl (hb hby hd) rfl q) k
theorem own_isub (X : Stand p l e R s m args below meth c T locs cells slots) (hx : p.tables.exec = Jvm.exec) (hby : c.code = bytes) {x y : Int32} (hd : decode bytes pc = .ok (.isub, 1)) (hp : pc + 1 = pc') (k : GoP p e below Φ (T.setTop (mkF m pc' Ls (.int (x - y) :: rest)))) : GoP p e below Φ (T.setTop (mkF m pc Ls (.int y :: .int x :: rest))) := by
  subst hp
  exact own_step (fun t q => XS.isub X.here hx rfl (hb hby hd) rfl q) k
theorem own_imul (X : Stand p l e R s m args below meth c T locs cells slots) (hx : p.tables.exec = Jvm.exec) (hby : c.code = bytes) {x y : Int32} (hd : decode bytes pc = .ok (.imul, 1)) (hp : pc + 1 = pc') (k : GoP p e below Φ (T.setTop (mkF m pc' Ls (.int (x * y) :: rest)))) : GoP p e below Φ (T.setTop (mkF m pc Ls (.int y :: .int x :: rest))) := by
  subst hp
  exact own_step (fun t q => XS.imul X.here hx rfl (hb hby hd) rfl q) k
theorem own_iand (X : Stand p l e R s m args below meth c T locs cells slots) (hx : p.tables.exec = Jvm.exec) (hby : c.code = bytes) {x y : Int32} (hd : decode bytes pc = .ok (.iand, 1)) (hp : pc + 1 = pc') (k : GoP p e below Φ (T.setTop (mkF m pc' Ls (.int (x &&& y) :: rest)))) : GoP p e below Φ (T.setTop (mkF m pc Ls (.int y :: .int x :: rest))) := by
  subst hp
  exact own_step (fun t q => XS.iand X.here hx rfl (hb hby hd) rfl q) k
theorem own_ishl (X : Stand p l e R s m args below meth c T locs cells slots) (hx : p.tables.exec = Jvm.exec) (hby : c.code = bytes) {x : Int32} {y : Int32} (hd : decode bytes pc = .ok (.ishl, 1)) (hp : pc + 1 = pc') (k : GoP p e below Φ (T.setTop (mkF m pc' Ls (.int (x <<< (y &&& 31)) :: rest)))) : GoP p e below Φ (T.setTop (mkF m pc Ls (.int y :: .int x :: rest))) := by
  subst hp
  exact own_step (fun t q => XS.ishl X.here hx rfl (hb hby hd) rfl q) k
theorem own_ishr (X : Stand p l e R s m args below meth c T locs cells slots) (hx : p.tables.exec = Jvm.exec) (hby : c.code = bytes) {x : Int32} {y : Int32} (hd : decode bytes pc = .ok (.ishr, 1)) (hp : pc + 1 = pc') (k : GoP p e below Φ (T.setTop (mkF m pc' Ls (.int (x >>> (y &&& 31)) :: rest)))) : GoP p e below Φ (T.setTop (mkF m pc Ls (.int y :: .int x :: rest))) := by
  subst hp
  exact own_step (fun t q => XS.ishr X.here hx rfl (hb hby hd) rfl q) k
theorem own_iushr (X : Stand p l e R s m args below meth c T locs cells slots) (hx : p.tables.exec = Jvm.exec) (hby : c.code = bytes) {x : Int32} {y : Int32} (hd : decode bytes pc = .ok (.iushr, 1)) (hp : pc + 1 = pc') (k : GoP p e below Φ (T.setTop (mkF m pc' Ls (.int ((x.toUInt32 >>> (y &&& 31).toUInt32).toInt32) :: rest)))) : GoP p e below Φ (T.setTop (mkF m pc Ls (.int y :: .int x :: rest))) := by
  subst hp
  exact own_step (fun t q => XS.iushr X.here hx rfl (hb hby hd) rfl q) k
theorem own_i2b (X : Stand p l e R s m args below meth c T locs cells slots) (hx : p.tables.exec = Jvm.exec) (hby : c.code = bytes) {x : Int32} (hd : decode bytes pc = .ok (.i2b, 1)) (hp : pc + 1 = pc') (k : GoP p e below Φ (T.setTop (mkF m pc' Ls (.int (x.toInt8.toInt32) :: rest)))) : GoP p e below Φ (T.setTop (mkF m pc Ls (.int x :: rest))) := by
  subst hp
  exact own_step (fun t q => XS.i2b X.here hx rfl (hb hby hd) rfl q) k
theorem own_i2c (X : Stand p l e R s m args below meth c T locs cells slots) (hx : p.tables.exec = Jvm.exec) (hby : c.code = bytes) {x : Int32} (hd : decode bytes pc = .ok (.i2c, 1)) (hp : pc + 1 = pc') (k : GoP p e below Φ (T.setTop (mkF m pc' Ls (.int (x.toUInt32.toUInt16.toUInt32.toInt32) :: rest)))) : GoP p e below Φ (T.setTop (mkF m pc Ls (.int x :: rest))) := by
  subst hp
  exact own_step (fun t q => XS.i2c X.here hx rfl (hb hby hd) rfl q) k
theorem own_iconst (X : Stand p l e R s m args below meth c T locs cells slots) (hx : p.tables.exec = Jvm.exec) (hby : c.code = bytes) {i : Int} {v : Int32} (hd : decode bytes pc = .ok (.iconst i, 1)) (hv : Int32.ofInt i = v) (hp : pc + 1 = pc') (k : GoP p e below Φ (T.setTop (mkF m pc' Ls (.int v :: rest)))) : GoP p e below Φ (T.setTop (mkF m pc Ls (rest))) := by
  subst hp hv
  exact own_step (fun t q => XS.iconst X.here hx rfl (hb hby hd) q) k
theorem own_bipush (X : Stand p l e R s m args below meth c T locs cells slots) (hx : p.tables.exec = Jvm.exec) (hby : c.code = bytes) {i : Int} {v : Int32} (hd : decode bytes pc = .ok (.bipush i, 2)) (hv : (Int8.ofInt i).toInt32 = v) (hp : pc + 2 = pc') (k : GoP p e below Φ (T.setTop (mkF m pc' Ls (.int v :: rest)))) : GoP p e below Φ (T.setTop (mkF m pc Ls (rest))) := by
  subst hp hv
  exact own_step (fun t q => XS.bipush X.here hx rfl (hb hby hd) q) k
theorem own_sipush (X : Stand p l e R s m args below meth c T locs cells slots) (hx : p.tables.exec = Jvm.exec) (hby : c.code = bytes) {i : Int} {v : Int32} (hd : decode bytes pc = .ok (.sipush i, 3)) (hv : (Int16.ofInt i).toInt32 = v) (hp : pc + 3 = pc') (k : GoP p e below Φ (T.setTop (mkF m pc' Ls (.int v :: rest)))) : GoP p e below Φ (T.setTop (mkF m pc Ls (rest))) := by
  subst hp hv
  exact own_step (fun t q => XS.sipush X.here hx rfl (hb hby hd) q) k
theorem own_aconst_null (X : Stand p l e R s m args below meth c T locs cells slots) (hx : p.tables.exec = Jvm.exec) (hby : c.code = bytes) (hd : decode bytes pc = .ok (.aconst_null, 1)) (hp : pc + 1 = pc') (k : GoP p e below Φ (T.setTop (mkF m pc' Ls (.null :: rest)))) : GoP p e below Φ (T.setTop (mkF m pc Ls (rest))) := by
  subst hp
  exact own_step (fun t q => XS.aconstNull X.here hx rfl (hb hby hd) q) k
theorem own_dup (X : Stand p l e R s m args below meth c T locs cells slots) (hx : p.tables.exec = Jvm.exec) (hby : c.code = bytes) {x : Value} (hd : decode bytes pc = .ok (.dup, 1)) (hc : x.category = 1) (hp : pc + 1 = pc') (k : GoP p e below Φ (T.setTop (mkF m pc' Ls (x :: x :: rest)))) : GoP p e below Φ (T.setTop (mkF m pc Ls (x :: rest))) := by
  subst hp
  exact own_step (fun t q => XS.dup X.here hx rfl (hb hby hd) rfl hc q) k
theorem own_pop (X : Stand p l e R s m args below meth c T locs cells slots) (hx : p.tables.exec = Jvm.exec) (hby : c.code = bytes) {x : Value} (hd : decode bytes pc = .ok (.pop, 1)) (hc : x.category = 1) (hp : pc + 1 = pc') (k : GoP p e below Φ (T.setTop (mkF m pc' Ls (rest)))) : GoP p e below Φ (T.setTop (mkF m pc Ls (x :: rest))) := by
  subst hp
  exact own_step (fun t q => XS.pop X.here hx rfl (hb hby hd) rfl hc q) k
theorem own_iinc (X : Stand p l e R s m args below meth c T locs cells slots) (hx : p.tables.exec = Jvm.exec) (hby : c.code = bytes) {k0 : Nat} {i : Int} {x v : Int32} (hd : decode bytes pc = .ok (.iinc k0 i, 3)) (hl : Ls[k0]? = some (.val (.int x))) (hv : Int32.ofInt i = v) (hl' : storeLocals Ls k0 (.int (x + v)) = some Ls') (hp : pc + 3 = pc') (k : GoP p e below Φ (T.setTop (mkF m pc' Ls' (rest)))) : GoP p e below Φ (T.setTop (mkF m pc Ls (rest))) := by
  subst hp hv
  exact own_step (fun t q => XS.iinc X.here hx rfl (hb hby hd) hl hl' q) k
theorem own_goto (X : Stand p l e R s m args below meth c T locs cells slots) (hx : p.tables.exec = Jvm.exec) (hby : c.code = bytes) {o : Int} (hd : decode bytes pc = .ok (.goto o, 3)) (ho : 0 ≤ (pc : Int) + o) (hp : ((pc : Int) + o).toNat = pc') (k : GoP p e below Φ (T.setTop (mkF m pc' Ls (rest)))) : GoP p e below Φ (T.setTop (mkF m pc Ls (rest))) :=
  own_step (fun t q => XS.goto X.here hx rfl (pc0 := pc) (pc' := pc') rfl (hb hby hd) ho hp q) k
theorem own_ifY (X : Stand p l e R s m args below meth c T locs cells slots) (hx : p.tables.exec = Jvm.exec) (hby : c.code = bytes) {cd : ClassFile.Cond} {o : Int} {x : Int32} (hd : decode bytes pc = .ok (.ifCond cd o, 3)) (hc : ifCond.holds cd x = true) (ho : 0 ≤ (pc : Int) + o) (hp : ((pc : Int) + o).toNat = pc') (k : GoP p e below Φ (T.setTop (mkF m pc' Ls (rest)))) : GoP p e below Φ (T.setTop (mkF m pc Ls (.int x :: rest))) :=
  own_step (fun t q => XS.ifYes X.here hx rfl (pc0 := pc) (pc' := pc') rfl (hb hby hd) rfl hc ho hp q) k
theorem own_ifN (X : Stand p l e R s m args below meth c T locs cells slots) (hx : p.tables.exec = Jvm.exec) (hby : c.code = bytes) {cd : ClassFile.Cond} {o : Int} {x : Int32} (hd : decode bytes pc = .ok (.ifCond cd o, 3)) (hc : ifCond.holds cd x = false) (hp : pc + 3 = pc') (k : GoP p e below Φ (T.setTop (mkF m pc' Ls (rest)))) : GoP p e below Φ (T.setTop (mkF m pc Ls (.int x :: rest))) := by
  subst hp
  exact own_step (fun t q => XS.ifNo X.here hx rfl (hb hby hd) rfl hc q) k
theorem own_icmpY (X : Stand p l e R s m args below meth c T locs cells slots) (hx : p.tables.exec = Jvm.exec) (hby : c.code = bytes) {cd : ClassFile.Cond} {o : Int} {x y : Int32} (hd : decode bytes pc = .ok (.if_icmp cd o, 3)) (hc : if_icmp.holds cd x y = true) (ho : 0 ≤ (pc : Int) + o) (hp : ((pc : Int) + o).toNat = pc') (k : GoP p e below Φ (T.setTop (mkF m pc' Ls (rest)))) : GoP p e below Φ (T.setTop (mkF m pc Ls (.int y :: .int x :: rest))) :=
  own_step (fun t q => XS.icmpYes X.here hx rfl (pc0 := pc) (pc' := pc') rfl (hb hby hd) rfl hc ho hp q) k
theorem own_icmpN (X : Stand p l e R s m args below meth c T locs cells slots) (hx : p.tables.exec = Jvm.exec) (hby : c.code = bytes) {cd : ClassFile.Cond} {o : Int} {x y : Int32} (hd : decode bytes pc = .ok (.if_icmp cd o, 3)) (hc : if_icmp.holds cd x y = false) (hp : pc + 3 = pc') (k : GoP p e below Φ (T.setTop (mkF m pc' Ls (rest)))) : GoP p e below Φ (T.setTop (mkF m pc Ls (.int y :: .int x :: rest))) := by
  subst hp
  exact own_step (fun t q => XS.icmpNo X.here hx rfl (hb hby hd) rfl hc q) k
theorem own_ifnonnullY (X : Stand p l e R s m args below meth c T locs cells slots) (hx : p.tables.exec = Jvm.exec) (hby : c.code = bytes) {b : Addr} {o : Int} (hd : decode bytes pc = .ok (.ifnonnull o, 3)) (ho : 0 ≤ (pc : Int) + o) (hp : ((pc : Int) + o).toNat = pc') (k : GoP p e below Φ (T.setTop (mkF m pc' Ls (rest)))) : GoP p e below Φ (T.setTop (mkF m pc Ls (.ref b :: rest))) :=
  own_step (fun t q => XS.ifnonnullYes X.here hx rfl (pc0 := pc) (pc' := pc') rfl (hb hby hd) rfl ho hp q) k
theorem own_getF (X : Stand p l e R s m args below meth c T locs cells slots) (hx : p.tables.exec = Jvm.exec) (hby : c.code = bytes) (hZ : Z.Warmed39 s.vm) {own R0 O n d host : String} {index : Nat} (hown : s.vm.findClass own = some m.cls) (w : (Jvm.Cond.fieldLink own index R0 n d).before a0 Z = true ∨ (Jvm.Cond.fieldLinkNest own index R0 n d host).before a0 Z = true) (via : Via Z R0 O n d) (eT : T.heap = h) {a : Addr} {v : Value} (F : Fld Z h a O n d v) (hd : decode bytes pc = .ok (.getfield index, 3)) (hp : pc + 3 = pc') (k : ∀ T' : State, Stand p l e R s m args below meth c T' locs cells slots → T'.heap = h → GoP p e below Φ (T'.setTop (mkF m pc' Ls (v :: rest)))) : GoP p e below Φ (T.setTop (mkF m pc Ls (.ref a :: rest))) := by
  subst hp
  obtain ⟨T', X', e', st'⟩ := getF X hx hZ hown w via eT F (g := mkF m pc Ls (.ref a :: rest)) rfl rfl (hb hby hd)
  exact own_step st' (k T' X' e')
theorem own_getS (X : Stand p l e R s m args below meth c T locs cells slots) (hx : p.tables.exec = Jvm.exec) (hby : c.code = bytes) (hZ : Z.Warmed39 s.vm) {own R0 O n d host : String} {index : Nat} (hown : s.vm.findClass own = some m.cls) (w : (Jvm.Cond.fieldLink own index R0 n d).before a0 Z = true ∨ (Jvm.Cond.fieldLinkNest own index R0 n d host).before a0 Z = true) (via : Via Z R0 O n d) (eT : T.heap = h) {v : Value} (F : Sta Z h O n d v) (hd : decode bytes pc = .ok (.getstatic index, 3)) (hp : pc + 3 = pc') (k : ∀ T' : State, Stand p l e R s m args below meth c T' locs cells slots → T'.heap = h → GoP p e below Φ (T'.setTop (mkF m pc' Ls (v :: rest)))) : GoP p e below Φ (T.setTop (mkF m pc Ls (rest))) := by
  subst hp
  obtain ⟨T', X', e', st'⟩ := getS2 X hx hZ hown w via eT F (g := mkF m pc Ls rest) rfl (hb hby hd)
  exact own_step st' (k T' X' e')
theorem own_putF (X : Stand p l e R s m args below meth c T locs cells slots) (hx : p.tables.exec = Jvm.exec) (hby : c.code = bytes) (hZ : Z.Warmed39 s.vm) {own R0 O n d host : String} {index : Nat} (hown : s.vm.findClass own = some m.cls) (w : (Jvm.Cond.fieldLink own index R0 n d).before a0 Z = true ∨ (Jvm.Cond.fieldLinkNest own index R0 n d host).before a0 Z = true) (via : Via Z R0 O n d) (eT : T.heap = h) {C : String} {kk : Nat} {ty : FieldType} {a : Addr} {v old : Value} (F : Fld Z h a O n d old) (E : Exa Z h a C) (L : (Jvm.Cond.lays C O n d).before a0 Z = true ∨ ((Jvm.Cond.laysFinal C O n d).before a0 Z = true ∧ own = O ∧ meth.name = "<init>")) (wi : (Jvm.Cond.instantiable C kk).before a0 Z = true) (hty : parseFieldDescriptor d = some ty) (hn : narrow ty v = v) (hf : fits ty v = true) (hd : decode bytes pc = .ok (.putfield index, 3)) (hp : pc + 3 = pc') (k : ∀ (T' : State) (h' : Heap), Stand p l e R s m args below meth c T' (locs ++ [⟨a, Jvm.RoadKit.slotOf Z O n d⟩]) cells slots → T'.heap = h' → Wr h h' a (Jvm.RoadKit.slotOf Z O n d) v → GoP p e below Φ (T'.setTop (mkF m pc' Ls rest))) : GoP p e below Φ (T.setTop (mkF m pc Ls (v :: .ref a :: rest))) := by
  subst hp
  obtain ⟨T', h', X', e', W', st'⟩ := putF X hx hZ hown w via eT F E L wi hty hn hf (g := mkF m pc Ls (v :: .ref a :: rest)) rfl rfl (hb hby hd)
  exact own_step st' (k T' h' X' e' W')
/-- a contract of one body at one heap: with these arguments it returns, and Q says what it leaves -/
def Con (l : Launch) (Z : State) (y : MethodName) (bytes : ByteArray) (maxL : Nat) (ret : Option FieldType) (ws : List Jvm.Cond) (rm : Room) (as' : Array Value) (h0 : Heap) (Q : Option Value → Heap → List Loc → Prop) : Prop :=
  MetFree l y (head1 (Jvm.Cond.code y bytes maxL ret :: ws) rm) (fun a U => a = as' ∧ Z.Warmed39 U.vm ∧ U.heap = h0) (fun _ _ _ _ _ => True) (fun _ U o U' => ∃ v L, o = .returned v ∧ Q v U'.heap L ∧ FrameEnd U o U' L rm.cells rm.slots)
/-- where a body may end: at a state that stands, with a value that Q takes -/
def Fin (p : Program) (l : Launch) (e : Env) (R : Room) (s : State) (m : MethodId) (args : Array Value) (below : List Frame) (meth : Method) (c : Code) (Q : Option Value → State → List Loc → Prop) (Φ : State → Prop) : Prop :=
  ∀ (T : State) (locs : List Loc) (cells slots : Nat) (v : Option Value), Stand p l e R s m args below meth c T locs cells slots → (meth.sig.returnType = none → v = none) → Q v T locs → cells ≤ R.cells → slots ≤ R.slots →
    ∃ fs, (∀ (f : JFrame) (acts : List Action), f.method = m → f.locked = none → f.entered = [] → (doReturn e (T.setTop f) acts v).1 = T.setFrames fs) ∧ Φ (T.setFrames fs)
theorem Con.of {y : MethodName} {maxL : Nat} {ret : Option FieldType} {ws : List Jvm.Cond} {rm : Room} {as' : Array Value} {h0 : Heap} {Q : Option Value → Heap → List Loc → Prop} (hpn : plainFor y = true)
    (body : ∀ (p : Program) (e : Env) (s : State) (m : MethodId) (below : List Frame) (meth : Method) (c : Code) (T : State), Stand p l e rm s m as' below meth c T [] 0 0 → p.tables.exec = Jvm.exec → c.code = bytes → c.maxLocals = maxL → s.vm.findClass y.cls = some m.cls → meth.name = y.name → meth.sig.returnType = ret → T.heap = h0 → Z.Warmed39 s.vm → s.heap = h0 →
      ∀ Φ : State → Prop, Fin p l e rm s m as' below meth c (fun v T L => Q v T.heap L) Φ → GoP p e below Φ (T.setTop (entryFrame m as' maxL))) : Con l Z y bytes maxL ret ws rm as' h0 Q := by
  refine MetFree.of_bodySF hpn hisR ?_
  intro p e s m args below meth c s₁ Bd hml0 hP hK
  obtain ⟨rfl, hZ, hh⟩ := hP
  have e0 : s₁.heap = h0 := by rw [← hh, Bd.state]; rfl
  have hlk : meth.locks = false := Bd.notSynchronized
  obtain ⟨t, h1, o, h2⟩ := body p e s m below meth c s₁ (Stand.of_body Bd) Bd.exec Bd.bytes hml0 (findClass_of_methodNamed Bd.named) (name_of_methodNamed Bd.named Bd.method).1 Bd.returns e0 hZ hh
    (fun t => ∃ o, t.status = .running ∧ Ended t below o ∧ ∃ v L, o = .returned v ∧ Q v t.heap L ∧ FrameEnd s o t L rm.cells rm.slots)
    (fun T locs cells slots v X hv hQ hc hs => by
      obtain ⟨fs, hr, hrun, hended, hW, hsame⟩ := X.leave (v := v) hv hlk
      exact ⟨fs, hr, _, hrun, hended, v, locs, rfl, hQ, ⟨_, rfl⟩, hW, hsame.mono hc hs⟩)
  exact ⟨t, o, h1, h2⟩
theorem own_retV (X : Stand p l e R s m args below meth c T locs cells slots) (hx : p.tables.exec = Jvm.exec) (hby : c.code = bytes) {Q : Option Value → State → List Loc → Prop} (fin : Fin p l e R s m args below meth c Q Φ) {t : FieldType} (hret : meth.sig.returnType = some t) {w : Value} {i : Instr} (hn : narrow t w = w)
    (hi : (i = .ireturn ∧ (t = .int ∨ t = .boolean ∨ t = .byte ∨ t = .char ∨ t = .short) ∧ ∃ z, w = .int z) ∨ (i = .lreturn ∧ t = .long ∧ ∃ z, w = .long z) ∨ (i = .dreturn ∧ t = .double ∧ ∃ z, w = .double z) ∨ (i = .freturn ∧ t = .float ∧ ∃ z, w = .float z) ∨ (i = .areturn ∧ t.isReference = true ∧ w.isRef = true))
    (hd : decode bytes pc = .ok (i, 1)) (hc : cells ≤ R.cells) (hs : slots ≤ R.slots) (hQ : Q (some w) T locs) : GoP p e below Φ (T.setTop (mkF m pc Ls (w :: rest))) := by
  obtain ⟨fs, hr, hΦ⟩ := fin _ _ _ _ (some w) X (fun q => by rw [hret] at q; cases q) hQ hc hs
  exact ⟨_, retOut X hx hret hn hi (hb hby hd) hr, hΦ⟩
theorem own_retI (X : Stand p l e R s m args below meth c T locs cells slots) (hx : p.tables.exec = Jvm.exec) (hby : c.code = bytes) {Q : Option Value → State → List Loc → Prop} (fin : Fin p l e R s m args below meth c Q Φ) (hret : meth.sig.returnType = some .int) {z : Int32} (hd : decode bytes pc = .ok (.ireturn, 1)) (hc : cells ≤ R.cells) (hs : slots ≤ R.slots) (hQ : Q (some (.int z)) T locs) : GoP p e below Φ (T.setTop (mkF m pc Ls (.int z :: rest))) :=
  own_retV X hx hby fin hret rfl (Or.inl ⟨rfl, Or.inl rfl, z, rfl⟩) hd hc hs hQ
theorem own_retN (X : Stand p l e R s m args below meth c T locs cells slots) (hx : p.tables.exec = Jvm.exec) (hby : c.code = bytes) {Q : Option Value → State → List Loc → Prop} (fin : Fin p l e R s m args below meth c Q Φ) {t : FieldType} (hret : meth.sig.returnType = some t) (ht : t = .int ∨ t = .boolean ∨ t = .byte ∨ t = .char ∨ t = .short) {z : Int32} (hn : narrow t (.int z) = .int z) (hd : decode bytes pc = .ok (.ireturn, 1)) (hc : cells ≤ R.cells) (hs : slots ≤ R.slots) (hQ : Q (some (.int z)) T locs) : GoP p e below Φ (T.setTop (mkF m pc Ls (.int z :: rest))) :=
  own_retV X hx hby fin hret hn (Or.inl ⟨rfl, ht, z, rfl⟩) hd hc hs hQ
theorem own_retA (X : Stand p l e R s m args below meth c T locs cells slots) (hx : p.tables.exec = Jvm.exec) (hby : c.code = bytes) {Q : Option Value → State → List Loc → Prop} (fin : Fin p l e R s m args below meth c Q Φ) {t : FieldType} (hret : meth.sig.returnType = some t) (ht : t.isReference = true) {w : Value} (hw : w.isRef = true) (hn : narrow t w = w) (hd : decode bytes pc = .ok (.areturn, 1)) (hc : cells ≤ R.cells) (hs : slots ≤ R.slots) (hQ : Q (some w) T locs) : GoP p e below Φ (T.setTop (mkF m pc Ls (w :: rest))) :=
  own_retV X hx hby fin hret hn (Or.inr (Or.inr (Or.inr (Or.inr ⟨rfl, ht, hw⟩)))) hd hc hs hQ
theorem own_ret0 (X : Stand p l e R s m args below meth c T locs cells slots) (hx : p.tables.exec = Jvm.exec) (hby : c.code = bytes) {Q : Option Value → State → List Loc → Prop} (fin : Fin p l e R s m args below meth c Q Φ) (hret : meth.sig.returnType = none) (hd : decode bytes pc = .ok (.return_, 1)) (hc : cells ≤ R.cells) (hs : slots ≤ R.slots) (hQ : Q none T locs) : GoP p e below Φ (T.setTop (mkF m pc Ls ([]))) := by
  obtain ⟨fs, hr, hΦ⟩ := fin _ _ _ _ none X (fun _ => rfl) hQ hc hs
  exact ⟨_, X.returnOut hx hret (hb hby hd) hr, hΦ⟩
theorem own_callS (X : Stand p l e R s m args below meth c T locs cells slots) (hx : p.tables.exec = Jvm.exec) (hby : c.code = bytes) (hZ : Z.Warmed39 s.vm) (hml : Ls.size = c.maxLocals) {own : String} {index : Nat} {y : MethodName} (hown : s.vm.findClass own = some m.cls) (w1 : (Jvm.Cond.methodLink own index y).before a0 Z = true) (w2 : (Jvm.Cond.static y).before a0 Z = true) (w3 : (Jvm.Cond.initialized y.cls).before a0 Z = true) {bytes' : ByteArray} {maxL : Nat} {ret : Option FieldType} (w4 : (Jvm.Cond.code y bytes' maxL ret).before a0 Z = true) (hy : y.cls ≠ "java/lang/invoke/MethodHandle" ∧ y.cls ≠ "java/lang/invoke/VarHandle") {rm : Room} {Q : Option Value → Heap → List Loc → Prop} (eT : T.heap = h) (W : Nat) (hf : rm.frames + 1 ≤ R.frames) (hl : W + (maxL + 11) + rm.locals ≤ R.locals) (hc : cells + rm.cells ≤ R.cells) (hs : slots + rm.slots ≤ R.slots) {argsL rest : List Value} {st : List Value} (hlen : ∀ sig, parseMethodDescriptor y.desc = some sig → argsL.length = sig.parameters.length) (hst : st = argsL.reverse ++ rest) (hM : Con l Z y bytes' maxL ret [] rm argsL.toArray h Q) (hW : (rest.map fun v => v.category).sum ≤ W) (hd : decode bytes pc = .ok (.invokestatic index, 3)) (hp : pc + 3 = pc') (k : ∀ (v : Option Value) (T' : State) (L : List Loc), Stand p l e R s m args below meth c T' (locs ++ L) (cells + rm.cells) (slots + rm.slots) → Q v T'.heap L → GoP p e below Φ (T'.setTop (mkF m pc' Ls (v.toList ++ rest)))) : GoP p e below Φ (T.setTop (mkF m pc Ls st)) := by
  obtain ⟨v, _, ⟨T', L', k', n'⟩, -, X', ⟨L, hQ, l1, y1, z1⟩, st'⟩ := Jvm.LawKit.callS X hx (y := y) hown (mvT hZ w1) (mvT hZ w2) (mvT hZ w3) (mvT hZ w4) hy (backOf (W := W) hM hZ w4 w3 hf hl) (g := mkF m pc Ls st) rfl hml (argsL := argsL) (rest := rest) hlen hst (by show 2 * 0 + _ ≤ _; omega) (hb hby hd) (fun _ _ => ⟨rfl, eT, hc, hs⟩)
  dsimp only [Pt.U, Pt.locs, Pt.cells, Pt.slots] at X' l1 y1 z1 st' hQ
  subst l1 y1 z1 hp
  exact own_step st' (k _ _ _ X' hQ)
theorem own_callI (X : Stand p l e R s m args below meth c T locs cells slots) (hx : p.tables.exec = Jvm.exec) (hby : c.code = bytes) (hZ : Z.Warmed39 s.vm) (hml : Ls.size = c.maxLocals) {own : String} {index : Nat} {y : MethodName} (hown : s.vm.findClass own = some m.cls) {a : Addr} (hn : y.name = "<init>") (w1 : (Jvm.Cond.methodLink own index y).before a0 Z = true) (w2 : (Jvm.Cond.instanceMethod y).before a0 Z = true) (w3 : (Jvm.Cond.initialized y.cls).before a0 Z = true) {bytes' : ByteArray} {maxL : Nat} (w4 : (Jvm.Cond.code y bytes' maxL none).before a0 Z = true) (hy : y.cls ≠ "java/lang/invoke/MethodHandle" ∧ y.cls ≠ "java/lang/invoke/VarHandle") {rm : Room} {Q : Option Value → Heap → List Loc → Prop} (eT : T.heap = h) (W : Nat) (hf : rm.frames + 1 ≤ R.frames) (hl : W + (maxL + 11) + rm.locals ≤ R.locals) (hc : cells + rm.cells ≤ R.cells) (hs : slots + rm.slots ≤ R.slots) {argsL rest : List Value} {st : List Value} (hlen : ∀ sig, parseMethodDescriptor y.desc = some sig → argsL.length = sig.parameters.length) (hst : st = argsL.reverse ++ .ref a :: rest) (hW : (rest.map fun v => v.category).sum ≤ W) (hM : Con l Z y bytes' maxL none [] rm (.ref a :: argsL).toArray h Q) (hd : decode bytes pc = .ok (.invokespecial index, 3)) (hp : pc + 3 = pc') (k : ∀ (v : Option Value) (T' : State) (L : List Loc), Stand p l e R s m args below meth c T' (locs ++ L) (cells + rm.cells) (slots + rm.slots) → Q v T'.heap L → GoP p e below Φ (T'.setTop (mkF m pc' Ls (v.toList ++ rest)))) : GoP p e below Φ (T.setTop (mkF m pc Ls st)) := by
  obtain ⟨v, _, ⟨T', L', k', n'⟩, -, X', ⟨L, hQ, l1, y1, z1⟩, st'⟩ := X.specialBack hx (y := y) hn hown (mvT hZ w1) (mvT hZ w2) (mvT hZ w4) hy (backOf (W := W) hM hZ w4 w3 hf hl) (g := mkF m pc Ls st) rfl hml (Steps.refl _) (a := a) (argsL := argsL) (rest := rest) hlen hst (by show 2 * 0 + _ ≤ _; omega) (hb hby hd) (fun _ _ => ⟨rfl, eT, hc, hs⟩)
  dsimp only [Pt.U, Pt.locs, Pt.cells, Pt.slots] at X' l1 y1 z1 st' hQ
  subst l1 y1 z1 hp
  exact own_trans st' (k _ _ _ X' hQ)
theorem own_callV (X : Stand p l e R s m args below meth c T locs cells slots) (hx : p.tables.exec = Jvm.exec) (hby : c.code = bytes) (hZ : Z.Warmed39 s.vm) (hml : Ls.size = c.maxLocals) {own : String} {index : Nat} {y : MethodName} (hown : s.vm.findClass own = some m.cls) {C : String} {b : Addr} (w1 : (Jvm.Cond.methodLink own index y).before a0 Z = true) (w2 : (Jvm.Cond.declares y).before a0 Z = true) (w5 : (Jvm.Cond.selects C y y).before a0 Z = true) (w6 : (Jvm.Cond.instanceMethod y).before a0 Z = true) (w3 : (Jvm.Cond.initialized y.cls).before a0 Z = true) {bytes' : ByteArray} {maxL : Nat} {ret : Option FieldType} (w4 : (Jvm.Cond.code y bytes' maxL ret).before a0 Z = true) (hy : y.cls ≠ "java/lang/invoke/MethodHandle" ∧ y.cls ≠ "java/lang/invoke/VarHandle") {rm : Room} {Q : Option Value → Heap → List Loc → Prop} (eT : T.heap = h) (W : Nat) (hf : rm.frames + 1 ≤ R.frames) (hl : W + (maxL + 11) + rm.locals ≤ R.locals) (hc : cells + rm.cells ≤ R.cells) (hs : slots + rm.slots ≤ R.slots) {argsL rest : List Value} {st : List Value} (hlen : ∀ sig, parseMethodDescriptor y.desc = some sig → argsL.length = sig.parameters.length) (hst : st = argsL.reverse ++ .ref b :: rest) (hW : (rest.map fun v => v.category).sum ≤ W) (E : Exa Z h b C) (hM : Con l Z y bytes' maxL ret [] rm (.ref b :: argsL).toArray h Q) (hd : decode bytes pc = .ok (.invokevirtual index, 3)) (hp : pc + 3 = pc') (k : ∀ (v : Option Value) (T' : State) (L : List Loc), Stand p l e R s m args below meth c T' (locs ++ L) (cells + rm.cells) (slots + rm.slots) → Q v T'.heap L → GoP p e below Φ (T'.setTop (mkF m pc' Ls (v.toList ++ rest)))) : GoP p e below Φ (T.setTop (mkF m pc Ls st)) := by
  obtain ⟨cq, kq, qa, qb, qc⟩ := isOf hZ eT E
  obtain ⟨v, _, ⟨T', L', k', n'⟩, -, X', ⟨L, hQ, l1, y1, z1⟩, st'⟩ := X.virtualBack hx (y := y) (z := y) hown (mvT hZ w1) (mvT hZ w2) (notFace_of_selects (args := #[]) (mvT hZ w5)) (mvT hZ w5) (mvT hZ w6) hy (backOf (W := W) hM hZ w4 w3 hf hl) qa qc (g := mkF m pc Ls st) rfl hml (Steps.refl _) (argsL := argsL) (rest := rest) hlen hst (by show 2 * 0 + _ ≤ _; omega) (hb hby hd) (fun _ _ => ⟨rfl, eT, hc, hs⟩)
  dsimp only [Pt.U, Pt.locs, Pt.cells, Pt.slots] at X' l1 y1 z1 st' hQ
  subst l1 y1 z1 hp
  exact own_trans st' (k _ _ _ X' hQ)
theorem own_stakeep {C n d : String} {w : Value} {h' : Heap} {ws : List Addr} (F : Sta Z h C n d w) (K : Keep h h' ws) (q : ∀ x ∈ ws, ∀ c : Cell, h[x]? = some c → c.vm.isStatics = false) : Sta Z h' C n d w := by
  obtain ⟨cf, i, k, f, st, cell, h1, h2, h3, h4, h5, h6, h7⟩ := F
  exact ⟨cf, i, k, f, st, cell, h1, h2, h3, h4, K.2.1 st cell h5 (fun y => by rw [q st y cell h5] at h6; cases h6), h6, h7⟩
theorem own_plainE {a : Addr} {C : String} (F : Exa Z h a C) : ∀ c : Cell, h[a]? = some c → c.vm.isStatics = false := fun c hc => by
  obtain ⟨cell, k, h1, h2, h3, h4, -⟩ := F
  cases hc.symm.trans h1; exact h4
/-- an int array of length n, of whatever ints -/
def IA (Z : State) (h : Heap) (a : Addr) (n : Int32) : Prop := ∃ cl : Cell, Arr Z h a cl .int ∧ cl.slots.size = n.toNatClampNeg ∧ ¬ n < 0 ∧ ∀ i, i < cl.slots.size → ∃ x, cl.slots[i]? = some (.int x)
theorem IA.lt {a : Addr} {n : Int32} (F : IA Z h a n) : a < h.size := by obtain ⟨cl, A, -⟩ := F; exact A.lt
theorem IA.ext {a : Addr} {n : Int32} {h' : Heap} (F : IA Z h a n) (E : Ext h h') : IA Z h' a n := by obtain ⟨cl, A, r⟩ := F; exact ⟨cl, A.ext E, r⟩
theorem IA.other {a b : Addr} {n : Int32} {h' : Heap} {sl : Nat} {v : Value} (F : IA Z h b n) (W : Wr h h' a sl v) (q : b ≠ a) : IA Z h' b n := by obtain ⟨cl, A, r⟩ := F; exact ⟨cl, A.other W q, r⟩
theorem IA.keep {a : Addr} {n : Int32} {h' : Heap} {ws : List Addr} (F : IA Z h a n) (K : Keep h h' ws) (q : a ∉ ws) : IA Z h' a n := by obtain ⟨cl, A, r⟩ := F; exact ⟨cl, ⟨K.2.1 a cl A.1 q, A.2⟩, r⟩
theorem IA.plain {a : Addr} {n : Int32} (F : IA Z h a n) : ∀ c : Cell, h[a]? = some c → c.vm.isStatics = false := fun c hc => by
  obtain ⟨cl, A, -⟩ := F
  cases hc.symm.trans A.1; exact A.plain
theorem IA.arv {a : Addr} {n : Int32} (F : IA Z h a n) : ∃ k vs, Arv Z h a k .int n vs (.int 0) ∧ vs.length = n.toNatClampNeg := by
  obtain ⟨cl, A, S, N, H⟩ := F
  have q : ∀ i, i < cl.slots.size → cl.slots[i]? = some (cl.slots.toList.getD i (.int 0)) := fun i hi => by
    rw [List.getD_eq_getElem?_getD, Array.getElem?_toList, Array.getElem?_eq_getElem hi]; rfl
  refine ⟨cl.cls, cl.slots.toList, ⟨cl, A, rfl, S, N, q, fun i hi => ?_⟩, by rw [Array.length_toList]; exact S⟩
  obtain ⟨x, hx⟩ := H i hi
  rw [← Option.some.inj ((hx.symm.trans (q i hi)))]; rfl
theorem IA.of {a : Addr} {n : Int32} {k : ClassId} {vs : List Value} {d : Value} (F : Arv Z h a k .int n vs d) : IA Z h a n := by
  obtain ⟨cl, A, -, S, N, H, G⟩ := F
  refine ⟨cl, A, S, N, fun i hi => ?_⟩
  obtain ⟨x, hx⟩ := fit_I (G i hi) (Or.inl rfl)
  exact ⟨x, by rw [H i hi, hx]⟩
theorem own_ltI {x y : Int32} (q : x.toInt < y.toInt) : x < y := Int32.lt_iff_toInt_lt.mpr q
theorem own_geI {x y : Int32} (q : y.toInt ≤ x.toInt) : ¬ x < y := fun u => by rw [Int32.lt_iff_toInt_lt] at u; omega
theorem own_add32 {x y : Int32} {k : Int} (q : x.toInt + y.toInt = k) (h1 : -2147483648 ≤ k) (h2 : k < 2147483648) : (x + y).toInt = k := by
  have a := c_iadd x y; have b := rng32 (x + y); omega
theorem own_sub32 {x y : Int32} {k : Int} (q : x.toInt - y.toInt = k) (h1 : -2147483648 ≤ k) (h2 : k < 2147483648) : (x - y).toInt = k := by
  have a := c_isub x y; have b := rng32 (x - y); omega
theorem IA.new {a : Addr} {k : ClassId} {n : Int32} (A : Arr Z h a (newA k .int n) .int) (q : ¬ n < 0) : IA Z h a n :=
  ⟨_, A, sz_new _ _ _, q, fun i hi => ⟨0, by simp [newA] at hi ⊢; simp [defaultValue, hi]⟩⟩
end OwnKit
section OwnKitW
variable {p : Program} {l : Launch} {e : Env} {R : Room} {s : State} {vm0 : Vm} {m : MethodId} {args : Array Value} {below : List Frame} {meth : Method} {c : Code} {T : State} {locs : List Loc} {cells slots : Nat} {bytes : ByteArray} {Φ : State → Prop} {pc pc' : Nat} {Ls Ls' : Array Slot} {rest : List Value} {Z : State} {a0 : Array Value} {h : Heap} {k0 : Nat}
def ConW (l : Launch) (Z : State) (y : MethodName) (bytes : ByteArray) (maxL : Nat) (ret : Option FieldType) (ws : List Jvm.Cond) (rm : Room) (as' : Array Value) (h0 : Heap) (Q : Option Value → Heap → List Loc → Prop) : Prop :=
  MetFree l y (head1 (Jvm.Cond.code y bytes maxL ret :: ws) rm) (fun a U => a = as' ∧ Z.Warmed39 U.vm ∧ U.heap = h0) (fun _ _ _ _ _ => True) (fun _ U o U' => ∃ v L, o = .returned v ∧ Q v U'.heap L ∧ ReturnedEndW U o U' L rm.cells rm.slots)
def FinW (p : Program) (l : Launch) (e : Env) (R : Room) (s : State) (m : MethodId) (args : Array Value) (below : List Frame) (meth : Method) (c : Code) (Q : Option Value → Heap → List Loc → Prop) (Φ : State → Prop) : Prop :=
  ∀ (vm0 : Vm) (k0 : Nat), s.Since vm0 k0 → Fin p l e R (s.setVm vm0) m args below meth c (fun v T L => Q v T.heap L ∧ k0 ≤ T.heap.size) Φ
theorem ConW.of {y : MethodName} {maxL : Nat} {ret : Option FieldType} {ws : List Jvm.Cond} {rm : Room} {as' : Array Value} {h0 : Heap} {Q : Option Value → Heap → List Loc → Prop} (hpn : plainFor y = true)
    (body : ∀ (p : Program) (e : Env) (s : State) (m : MethodId) (below : List Frame) (meth : Method) (c : Code) (T : State) (vm0 : Vm) (k0 : Nat), Stand p l e rm (s.setVm vm0) m as' below meth c T [] 0 0 → p.tables.exec = Jvm.exec → c.code = bytes → c.maxLocals = maxL → vm0.findClass y.cls = some m.cls → meth.name = y.name → meth.sig.returnType = ret → T.heap = h0 → Z.Warmed39 vm0 → s.heap = h0 → s.Since vm0 k0 → k0 ≤ h0.size →
      ∀ Φ : State → Prop, FinW p l e rm s m as' below meth c Q Φ → GoP p e below Φ (T.setTop (entryFrame m as' maxL))) : ConW l Z y bytes maxL ret ws rm as' h0 Q := by
  refine MetFree.of_bodySF hpn hisR ?_
  intro p e s m args below meth c s₁ Bd hml0 hP hK
  obtain ⟨rfl, hZ, hh⟩ := hP
  have e0 : s₁.heap = h0 := by rw [← hh, Bd.state]; rfl
  have hlk : meth.locks = false := Bd.notSynchronized
  obtain ⟨t, h1, o, h2⟩ := body p e s m below meth c s₁ s.vm h0.size (Stand.of_body Bd) Bd.exec Bd.bytes hml0 (findClass_of_methodNamed Bd.named) (name_of_methodNamed Bd.named Bd.method).1 Bd.returns e0 hZ hh ((State.WarmedH.refl s).since _) (Nat.le_refl _)
    (fun t => ∃ o, t.status = .running ∧ Ended t below o ∧ ∃ v L, o = .returned v ∧ Q v t.heap L ∧ ReturnedEndW s o t L rm.cells rm.slots)
    (fun vm0 k0 hS T locs cells slots v X hv hQ hc hs => by
      obtain ⟨fs, hr, hrun, hended, hW, hsame⟩ := X.leave (v := v) hv hlk
      obtain ⟨r1, r2, r3⟩ := hS.ended hW hQ.2 hsame
      exact ⟨fs, hr, _, hrun, hended, v, locs, rfl, hQ.1, ⟨_, rfl⟩, r1, r2, r3.mono hc hs⟩)
  exact ⟨t, o, h1, h2⟩
end OwnKitW
section OwnKitV
variable {p : Program} {l : Launch} {e : Env} {R : Room} {s : State} {m : MethodId} {args : Array Value} {below : List Frame} {meth : Method} {c : Code} {T : State} {locs : List Loc} {cells slots : Nat} {bytes : ByteArray} {Φ : State → Prop} {pc pc' : Nat} {Ls Ls' : Array Slot} {rest : List Value} {Z : State} {a0 : Array Value} {h h' : Heap} {a b : Addr} {ty : FieldType} {vs : List Value} {v w : Value} {i : Nat}
/-- the array at a, of components ty, holds just vs -/
def AV (Z : State) (h : Heap) (a : Addr) (ty : FieldType) (vs : List Value) : Prop := ∃ cl : Cell, Arr Z h a cl ty ∧ cl.slots.toList = vs ∧ vs.length < 2 ^ 31
theorem AV.lt (F : AV Z h a ty vs) : a < h.size := by obtain ⟨cl, A, -⟩ := F; exact A.lt
theorem AV.ext (F : AV Z h a ty vs) (E : Ext h h') : AV Z h' a ty vs := by obtain ⟨cl, A, r⟩ := F; exact ⟨cl, A.ext E, r⟩
theorem AV.other (F : AV Z h b ty vs) (W : Wr h h' a i v) (q : b ≠ a) : AV Z h' b ty vs := by obtain ⟨cl, A, r⟩ := F; exact ⟨cl, A.other W q, r⟩
theorem AV.keep {ws : List Addr} (F : AV Z h a ty vs) (K : Keep h h' ws) (q : a ∉ ws) : AV Z h' a ty vs := by obtain ⟨cl, A, r⟩ := F; exact ⟨cl, ⟨K.2.1 a cl A.1 q, A.2⟩, r⟩
theorem AV.same (F : AV Z h a ty vs) (W : Wr h h' a i v) : AV Z h' a ty (vs.set i v) := by
  obtain ⟨cl, A, r1, r2⟩ := F
  exact ⟨_, A.same W, by rw [← r1]; simp [Cell.setSlot], by rw [List.length_set]; exact r2⟩
theorem AV.plain (F : AV Z h a ty vs) : ∀ c : Cell, h[a]? = some c → c.vm.isStatics = false := fun c hc => by
  obtain ⟨cl, A, -⟩ := F
  cases hc.symm.trans A.1; exact A.plain
theorem AV.new {k : ClassId} {n : Int32} (A : Arr Z h a (newA k ty n) ty) (q : ¬ n < 0) : AV Z h a ty (List.replicate n.toNatClampNeg (defaultValue ty)) :=
  ⟨_, A, by simp [newA], by rw [List.length_replicate]; exact (back32 q).2⟩
theorem own_inb {cl : Cell} {j : Int32} (r : cl.slots.toList = vs) (h0 : ¬ j < 0) (hl : j.toNatClampNeg < vs.length) : ¬ (j < 0 ∨ cl.slots.size ≤ j.toNatClampNeg) := fun q => q.elim h0 fun y => by
  rw [← r, Array.length_toList] at hl; omega
theorem own_get {cl : Cell} {j : Nat} (r : cl.slots.toList = vs) (hv : vs[j]? = some v) : cl.slots[j]? = some v := by rw [← Array.getElem?_toList, r]; exact hv
theorem own_lt {j : Nat} (hv : vs[j]? = some v) : j < vs.length := (List.getElem?_eq_some_iff.mp hv).1
theorem own_caload (X : Stand p l e R s m args below meth c T locs cells slots) (hx : p.tables.exec = Jvm.exec) (hby : c.code = bytes) (hZ : Z.Warmed39 s.vm) (eT : T.heap = h) {j : Int32} (F : AV Z h a .char vs) (h0 : ¬ j < 0) (hv : vs[j.toNatClampNeg]? = some v) (hd : decode bytes pc = .ok (.caload, 1)) (hp : pc + 1 = pc') (k : GoP p e below Φ (T.setTop (mkF m pc' Ls (v :: rest)))) : GoP p e below Φ (T.setTop (mkF m pc Ls (.int j :: .ref a :: rest))) := by
  subst hp
  obtain ⟨cl, A, r1, r2⟩ := F
  exact own_step (fun t u => X.caload hx (j := j) (v := v) (by rw [eT]; exact A.1) (State.isArrayOf_alike hZ.alike A.2.1) A.2.2 (own_inb r1 h0 (own_lt hv)) (own_get r1 hv) (g := mkF m pc Ls (.int j :: .ref a :: rest)) rfl rfl (hb hby hd) t u) k
theorem own_baload (X : Stand p l e R s m args below meth c T locs cells slots) (hx : p.tables.exec = Jvm.exec) (hby : c.code = bytes) (hZ : Z.Warmed39 s.vm) (eT : T.heap = h) {j : Int32} (F : AV Z h a .byte vs) (h0 : ¬ j < 0) (hv : vs[j.toNatClampNeg]? = some v) (hd : decode bytes pc = .ok (.baload, 1)) (hp : pc + 1 = pc') (k : GoP p e below Φ (T.setTop (mkF m pc' Ls (v :: rest)))) : GoP p e below Φ (T.setTop (mkF m pc Ls (.int j :: .ref a :: rest))) := by
  subst hp
  obtain ⟨cl, A, r1, r2⟩ := F
  exact own_step (fun t u => X.baloadBytes hx (j := j) (v := v) (by rw [eT]; exact A.1) (State.isArrayOf_alike hZ.alike A.2.1) A.2.2 (own_inb r1 h0 (own_lt hv)) (own_get r1 hv) (g := mkF m pc Ls (.int j :: .ref a :: rest)) rfl rfl (hb hby hd) t u) k
theorem own_alen (X : Stand p l e R s m args below meth c T locs cells slots) (hx : p.tables.exec = Jvm.exec) (hby : c.code = bytes) (hZ : Z.Warmed39 s.vm) (eT : T.heap = h) {n : Int32} (F : AV Z h a ty vs) (hn : Int32.ofNat vs.length = n) (hd : decode bytes pc = .ok (.arraylength, 1)) (hp : pc + 1 = pc') (k : GoP p e below Φ (T.setTop (mkF m pc' Ls (.int n :: rest)))) : GoP p e below Φ (T.setTop (mkF m pc Ls (.ref a :: rest))) := by
  subst hp
  obtain ⟨cl, A, r1, r2⟩ := F
  have q : cl.slots.size.toInt32 = n := by rw [← hn, ← r1, Array.length_toList]
  rw [← q] at k
  exact own_step (fun t u => X.arraylength hx (by rw [eT]; exact A.1) (State.isArrayOf_alike hZ.alike A.2.1) (g := mkF m pc Ls (.ref a :: rest)) rfl rfl (hb hby hd) t u) k
theorem own_bastoreB (X : Stand p l e R s m args below meth c T locs cells slots) (hx : p.tables.exec = Jvm.exec) (hby : c.code = bytes) (hZ : Z.Warmed39 s.vm) (eT : T.heap = h) {j x : Int32} (F : AV Z h a .byte vs) (h0 : ¬ j < 0) (hl : j.toNatClampNeg < vs.length) (hd : decode bytes pc = .ok (.bastore, 1)) (hp : pc + 1 = pc') (k : ∀ (T' : State) (h' : Heap), Stand p l e R s m args below meth c T' (locs ++ [⟨a, j.toNatClampNeg⟩]) cells slots → T'.heap = h' → Wr h h' a j.toNatClampNeg (.int (nar .byte x)) → AV Z h' a .byte (vs.set j.toNatClampNeg (.int (nar .byte x))) → GoP p e below Φ (T'.setTop (mkF m pc' Ls rest))) : GoP p e below Φ (T.setTop (mkF m pc Ls (.int x :: .int j :: .ref a :: rest))) := by
  subst hp
  obtain ⟨cl, A, r1, r2⟩ := F
  obtain ⟨T', h', X', e', W', st'⟩ := stB X hx hZ eT A (j := j) (x := x) (own_inb r1 h0 hl) (g := mkF m pc Ls (.int x :: .int j :: .ref a :: rest)) rfl rfl (hb hby hd)
  exact own_step st' (k T' h' X' e' W' (AV.same ⟨cl, A, r1, r2⟩ W'))
theorem own_castore (X : Stand p l e R s m args below meth c T locs cells slots) (hx : p.tables.exec = Jvm.exec) (hby : c.code = bytes) (hZ : Z.Warmed39 s.vm) (eT : T.heap = h) {j x : Int32} (F : AV Z h a .char vs) (h0 : ¬ j < 0) (hl : j.toNatClampNeg < vs.length) (hd : decode bytes pc = .ok (.castore, 1)) (hp : pc + 1 = pc') (k : ∀ (T' : State) (h' : Heap), Stand p l e R s m args below meth c T' (locs ++ [⟨a, j.toNatClampNeg⟩]) cells slots → T'.heap = h' → Wr h h' a j.toNatClampNeg (.int (nar .char x)) → AV Z h' a .char (vs.set j.toNatClampNeg (.int (nar .char x))) → GoP p e below Φ (T'.setTop (mkF m pc' Ls rest))) : GoP p e below Φ (T.setTop (mkF m pc Ls (.int x :: .int j :: .ref a :: rest))) := by
  subst hp
  obtain ⟨cl, A, r1, r2⟩ := F
  obtain ⟨T', h', X', e', W', st'⟩ := stC X hx hZ eT A (j := j) (x := x) (own_inb r1 h0 hl) (g := mkF m pc Ls (.int x :: .int j :: .ref a :: rest)) rfl rfl (hb hby hd)
  exact own_step st' (k T' h' X' e' W' (AV.same ⟨cl, A, r1, r2⟩ W'))
theorem AV.of {k : ClassId} {n : Int32} {d : Value} (F : Arv Z h a k ty n vs d) (q : vs.length = n.toNatClampNeg) : AV Z h a ty vs := by
  obtain ⟨cl, A, -, S, N, H, G⟩ := F
  refine ⟨cl, A, List.ext_getElem? fun i => ?_, by rw [q]; exact (back32 N).2⟩
  rw [Array.getElem?_toList]
  by_cases hi : i < cl.slots.size
  · rw [H i hi, List.getElem?_eq_getElem (by rw [q, ← S]; exact hi), List.getD_eq_getElem?_getD, List.getElem?_eq_getElem (by rw [q, ← S]; exact hi)]; rfl
  · rw [Array.getElem?_eq_none (Nat.le_of_not_lt hi), List.getElem?_eq_none (by rw [q, ← S]; exact Nat.le_of_not_lt hi)]
end OwnKitV
section OwnKitX
variable {p : Program} {l : Launch} {e : Env} {R : Room} {s : State} {vm0 : Vm} {m : MethodId} {args : Array Value} {below : List Frame} {meth : Method} {c : Code} {T : State} {locs : List Loc} {cells slots : Nat} {bytes : ByteArray} {Φ : State → Prop} {pc pc' : Nat} {Ls Ls' : Array Slot} {rest : List Value} {Z : State} {a0 : Array Value} {h : Heap} {k0 : Nat}
def ConX (l : Launch) (Z : State) (y : MethodName) (bytes : ByteArray) (maxL : Nat) (ret : Option FieldType) (ws : List Jvm.Cond) (rm : Room) (as' : Array Value) (h0 : Heap) (Pv : Vm → Prop) (Q : Option Value → Heap → Vm → List Loc → Prop) : Prop :=
  MetFree l y (head1 (Jvm.Cond.code y bytes maxL ret :: ws) rm) (fun a U => a = as' ∧ Z.Warmed39 U.vm ∧ U.heap = h0 ∧ Pv U.vm) (fun _ _ _ _ _ => True) (fun _ U o U' => ∃ v L, o = .returned v ∧ Q v U'.heap U'.vm L ∧ ReturnedEndW U o U' L rm.cells rm.slots)
def FinX (p : Program) (l : Launch) (e : Env) (R : Room) (s : State) (m : MethodId) (args : Array Value) (below : List Frame) (meth : Method) (c : Code) (Q : Option Value → Heap → Vm → List Loc → Prop) (Φ : State → Prop) : Prop :=
  ∀ (vm0 : Vm) (k0 : Nat), s.Since vm0 k0 → Fin p l e R (s.setVm vm0) m args below meth c (fun v T L => Q v T.heap T.vm L ∧ k0 ≤ T.heap.size) Φ
theorem ConX.of {y : MethodName} {maxL : Nat} {ret : Option FieldType} {ws : List Jvm.Cond} {rm : Room} {as' : Array Value} {h0 : Heap} {Pv : Vm → Prop} {Q : Option Value → Heap → Vm → List Loc → Prop} (hpn : plainFor y = true)
    (body : ∀ (p : Program) (e : Env) (s : State) (m : MethodId) (below : List Frame) (meth : Method) (c : Code) (T : State) (vm0 : Vm) (k0 : Nat), Stand p l e rm (s.setVm vm0) m as' below meth c T [] 0 0 → p.tables.exec = Jvm.exec → c.code = bytes → c.maxLocals = maxL → vm0.findClass y.cls = some m.cls → meth.name = y.name → meth.sig.returnType = ret → T.heap = h0 → Z.Warmed39 vm0 → s.heap = h0 → s.Since vm0 k0 → k0 ≤ h0.size → Pv vm0 →
      ∀ Φ : State → Prop, FinX p l e rm s m as' below meth c Q Φ → GoP p e below Φ (T.setTop (entryFrame m as' maxL))) : ConX l Z y bytes maxL ret ws rm as' h0 Pv Q := by
  refine MetFree.of_bodySF hpn hisR ?_
  intro p e s m args below meth c s₁ Bd hml0 hP hK
  obtain ⟨rfl, hZ, hh, hv⟩ := hP
  have e0 : s₁.heap = h0 := by rw [← hh, Bd.state]; rfl
  have hlk : meth.locks = false := Bd.notSynchronized
  obtain ⟨t, h1, o, h2⟩ := body p e s m below meth c s₁ s.vm h0.size (Stand.of_body Bd) Bd.exec Bd.bytes hml0 (findClass_of_methodNamed Bd.named) (name_of_methodNamed Bd.named Bd.method).1 Bd.returns e0 hZ hh ((State.WarmedH.refl s).since _) (Nat.le_refl _) hv
    (fun t => ∃ o, t.status = .running ∧ Ended t below o ∧ ∃ v L, o = .returned v ∧ Q v t.heap t.vm L ∧ ReturnedEndW s o t L rm.cells rm.slots)
    (fun vm0 k0 hS T locs cells slots v X hv hQ hc hs => by
      obtain ⟨fs, hr, hrun, hended, hW, hsame⟩ := X.leave (v := v) hv hlk
      obtain ⟨r1, r2, r3⟩ := hS.ended hW hQ.2 hsame
      exact ⟨fs, hr, _, hrun, hended, v, locs, rfl, hQ.1, ⟨_, rfl⟩, r1, r2, r3.mono hc hs⟩)
  exact ⟨t, o, h1, h2⟩
theorem own_backX {y : MethodName} {maxL : Nat} {ret : Option FieldType} {rm : Room} {len W : Nat} {as' : Array Value} {Pv : Vm → Prop} {Q : Option Value → Heap → Vm → List Loc → Prop}
    (hM : ConX l Z y bytes maxL ret [] rm as' h Pv Q) (hZ : Z.Warmed39 s.vm) (wc : (Jvm.Cond.code y bytes maxL ret).before a0 Z = true) (wz : (Jvm.Cond.initialized y.cls).before a0 Z = true) (hf : rm.frames + 1 ≤ R.frames) (hl : W + (maxL + 11) + rm.locals ≤ R.locals) :
    BackS l R p e below s args y len W (fun A a => a = as' ∧ A.U.heap = h ∧ A.cells + rm.cells ≤ R.cells ∧ A.slots + rm.slots ≤ R.slots ∧ Pv A.U.vm)
      (fun A _ v B => ∃ L, Q v B.U.heap B.U.vm L ∧ B.locs = A.locs ++ L ∧ B.cells = A.cells + rm.cells ∧ B.slots = A.slots + rm.slots) :=
  BackS.of_freeW (bytes := bytes) (maxL := maxL) (ret := ret) (E := fun _ _ o t L k n => k = rm.cells ∧ n = rm.slots ∧ ∃ v, o = .returned v ∧ Q v t.heap t.vm L) hM hf hl
    (fun m meth c A a Y hp => have hU : Z.Warmed39 A.U.vm := wtrans hZ Y.warmed
      ⟨by show (Jvm.Cond.and _ .tt).before a A.U = true; rw [Cond.before_and, mv hU wc]; rfl, mv hU wc, mv hU wz, hp.2.2.1, hp.2.2.2.1⟩)
    (fun m meth c A a g mk Y hp => ⟨hp.1, wtrans hZ Y.warmed, hp.2.1, hp.2.2.2.2⟩) (fun _ _ _ _ _ _ _ _ _ => trivial)
    (fun _ _ _ _ ⟨v, L, h1, h2, h3⟩ => ⟨L, _, _, h3, rfl, rfl, v, h1, h2⟩)
    (fun m meth c A a g mk v t L k n Y hp _ _ ⟨e1, e2, v', e3, e4⟩ => by cases e3; subst e1 e2; exact ⟨L, e4, rfl, rfl, rfl⟩)
/-- a word on the tables that stays where they warm -/
def Stays (Pv : Vm → Prop) : Prop := ∀ (s : State) (vm0 vm1 : Vm), (s.setVm vm0).WarmedH vm1 → Pv vm0 → Pv vm1
theorem own_callVX (X : Stand p l e R (s.setVm vm0) m args below meth c T locs cells slots) (hx : p.tables.exec = Jvm.exec) (hby : c.code = bytes) (hZ : Z.Warmed39 vm0) (hml : Ls.size = c.maxLocals) {own : String} {index : Nat} {y : MethodName} (hown : vm0.findClass own = some m.cls) {C : String} {b : Addr} (w1 : (Jvm.Cond.methodLink own index y).before a0 Z = true) (w2 : (Jvm.Cond.declares y).before a0 Z = true) (w5 : (Jvm.Cond.selects C y y).before a0 Z = true) (w6 : (Jvm.Cond.instanceMethod y).before a0 Z = true) (w3 : (Jvm.Cond.initialized y.cls).before a0 Z = true) {bytes' : ByteArray} {maxL : Nat} {ret : Option FieldType} (w4 : (Jvm.Cond.code y bytes' maxL ret).before a0 Z = true) (hy : y.cls ≠ "java/lang/invoke/MethodHandle" ∧ y.cls ≠ "java/lang/invoke/VarHandle") {rm : Room} {Pv : Vm → Prop} {Q : Option Value → Heap → Vm → List Loc → Prop} (eT : T.heap = h) (W : Nat) (hf : rm.frames + 1 ≤ R.frames) (hl : W + (maxL + 11) + rm.locals ≤ R.locals) (hc : cells + rm.cells ≤ R.cells) (hs : slots + rm.slots ≤ R.slots) {argsL rest : List Value} {st : List Value} (hlen : ∀ sig, parseMethodDescriptor y.desc = some sig → argsL.length = sig.parameters.length) (hst : st = argsL.reverse ++ .ref b :: rest) (hW : (rest.map fun v => v.category).sum ≤ W) (E : Exa Z h b C) (hM : ConX l Z y bytes' maxL ret [] rm (.ref b :: argsL).toArray h Pv Q) (hd : decode bytes pc = .ok (.invokevirtual index, 3)) (hp : pc + 3 = pc') (hS : s.Since vm0 k0) (hk : k0 ≤ h.size) (hPs : Stays Pv) (hP : Pv vm0) (k : ∀ (v : Option Value) (T' : State) (L : List Loc), Stand p l e R (s.setVm T'.vm) m args below meth c T' (locs ++ L) (cells + rm.cells) (slots + rm.slots) → s.Since T'.vm T'.heap.size → T'.heap.size ≤ T'.heap.size → Z.Warmed39 T'.vm → T'.vm.findClass own = some m.cls → h.size ≤ T'.heap.size → Q v T'.heap T'.vm L → GoP p e below Φ (T'.setTop (mkF m pc' Ls (v.toList ++ rest)))) : GoP p e below Φ (T.setTop (mkF m pc Ls st)) := by
  obtain ⟨cq, kq, qa, qb, qc⟩ := isOf (s := s.setVm vm0) hZ eT E
  obtain ⟨v, _, ⟨T', L', k', n'⟩, -, X', hS2, hg2, ⟨L, hQ, l1, y1, z1⟩, st'⟩ := X.virtualBackS hx (y := y) (z := y) hown (mvT (s := s.setVm vm0) hZ w1) (mvT (s := s.setVm vm0) hZ w2) (notFace_of_selects (args := #[]) (mvT (s := s.setVm vm0) hZ w5)) (mvT (s := s.setVm vm0) hZ w5) (mvT (s := s.setVm vm0) hZ w6) hy (own_backX (W := W) hM hZ w4 w3 hf hl) qa qc (g := mkF m pc Ls st) rfl hml (Steps.refl _) (argsL := argsL) (rest := rest) hlen hst (by show 2 * 0 + _ ≤ _; omega) (hb hby hd) (fun vm1 hv1 => ⟨rfl, eT, hc, hs, hPs s vm0 vm1 hv1 hP⟩)
  dsimp only [Pt.U, Pt.locs, Pt.cells, Pt.slots] at X' l1 y1 z1 st' hQ hS2 hg2
  subst l1 y1 z1 hp
  obtain ⟨X'', hS3, hZ3, hown3⟩ := rebS (n1 := T.heap.size) hS (by rw [eT]; exact hk) X' hS2 hg2 hZ hown
  exact own_trans st' (k _ _ _ X'' hS3 (Nat.le_refl _) hZ3 hown3 (by rw [← eT]; exact hg2) hQ)
theorem own_callSX (X : Stand p l e R (s.setVm vm0) m args below meth c T locs cells slots) (hx : p.tables.exec = Jvm.exec) (hby : c.code = bytes) (hZ : Z.Warmed39 vm0) (hml : Ls.size = c.maxLocals) {own : String} {index : Nat} {y : MethodName} (hown : vm0.findClass own = some m.cls) (w1 : (Jvm.Cond.methodLink own index y).before a0 Z = true) (w2 : (Jvm.Cond.static y).before a0 Z = true) (w3 : (Jvm.Cond.initialized y.cls).before a0 Z = true) {bytes' : ByteArray} {maxL : Nat} {ret : Option FieldType} (w4 : (Jvm.Cond.code y bytes' maxL ret).before a0 Z = true) (hy : y.cls ≠ "java/lang/invoke/MethodHandle" ∧ y.cls ≠ "java/lang/invoke/VarHandle") {rm : Room} {Pv : Vm → Prop} {Q : Option Value → Heap → Vm → List Loc → Prop} (eT : T.heap = h) (W : Nat) (hf : rm.frames + 1 ≤ R.frames) (hl : W + (maxL + 11) + rm.locals ≤ R.locals) (hc : cells + rm.cells ≤ R.cells) (hs : slots + rm.slots ≤ R.slots) {argsL rest : List Value} {st : List Value} (hlen : ∀ sig, parseMethodDescriptor y.desc = some sig → argsL.length = sig.parameters.length) (hst : st = argsL.reverse ++ rest) (hW : (rest.map fun v => v.category).sum ≤ W) (hM : ConX l Z y bytes' maxL ret [] rm argsL.toArray h Pv Q) (hd : decode bytes pc = .ok (.invokestatic index, 3)) (hp : pc + 3 = pc') (hS : s.Since vm0 k0) (hk : k0 ≤ h.size) (hPs : Stays Pv) (hP : Pv vm0) (k : ∀ (v : Option Value) (T' : State) (L : List Loc), Stand p l e R (s.setVm T'.vm) m args below meth c T' (locs ++ L) (cells + rm.cells) (slots + rm.slots) → s.Since T'.vm T'.heap.size → T'.heap.size ≤ T'.heap.size → Z.Warmed39 T'.vm → T'.vm.findClass own = some m.cls → h.size ≤ T'.heap.size → Q v T'.heap T'.vm L → GoP p e below Φ (T'.setTop (mkF m pc' Ls (v.toList ++ rest)))) : GoP p e below Φ (T.setTop (mkF m pc Ls st)) := by
  obtain ⟨v, _, ⟨T', L', k', n'⟩, -, X', hS2, hg2, ⟨L, hQ, l1, y1, z1⟩, st'⟩ := callSS X hx (y := y) hown (mvT (s := s.setVm vm0) hZ w1) (mvT (s := s.setVm vm0) hZ w2) (mvT (s := s.setVm vm0) hZ w3) (mvT (s := s.setVm vm0) hZ w4) hy (own_backX (W := W) hM hZ w4 w3 hf hl) (g := mkF m pc Ls st) rfl hml (argsL := argsL) (rest := rest) hlen hst (by show 2 * 0 + _ ≤ _; omega) (hb hby hd) (fun vm1 hv1 => ⟨rfl, eT, hc, hs, hPs s vm0 vm1 hv1 hP⟩)
  dsimp only [Pt.U, Pt.locs, Pt.cells, Pt.slots] at X' l1 y1 z1 st' hQ hS2 hg2
  subst l1 y1 z1 hp
  obtain ⟨X'', hS3, hZ3, hown3⟩ := rebS (n1 := T.heap.size) hS (by rw [eT]; exact hk) X' hS2 hg2 hZ hown
  exact own_trans st' (k _ _ _ X'' hS3 (Nat.le_refl _) hZ3 hown3 (by rw [← eT]; exact hg2) hQ)
theorem own_callIX (X : Stand p l e R (s.setVm vm0) m args below meth c T locs cells slots) (hx : p.tables.exec = Jvm.exec) (hby : c.code = bytes) (hZ : Z.Warmed39 vm0) (hml : Ls.size = c.maxLocals) {own : String} {index : Nat} {y : MethodName} (hown : vm0.findClass own = some m.cls) {a : Addr} (hn : y.name = "<init>") (w1 : (Jvm.Cond.methodLink own index y).before a0 Z = true) (w2 : (Jvm.Cond.instanceMethod y).before a0 Z = true) (w3 : (Jvm.Cond.initialized y.cls).before a0 Z = true) {bytes' : ByteArray} {maxL : Nat} (w4 : (Jvm.Cond.code y bytes' maxL none).before a0 Z = true) (hy : y.cls ≠ "java/lang/invoke/MethodHandle" ∧ y.cls ≠ "java/lang/invoke/VarHandle") {rm : Room} {Pv : Vm → Prop} {Q : Option Value → Heap → Vm → List Loc → Prop} (eT : T.heap = h) (W : Nat) (hf : rm.frames + 1 ≤ R.frames) (hl : W + (maxL + 11) + rm.locals ≤ R.locals) (hc : cells + rm.cells ≤ R.cells) (hs : slots + rm.slots ≤ R.slots) {argsL rest : List Value} {st : List Value} (hlen : ∀ sig, parseMethodDescriptor y.desc = some sig → argsL.length = sig.parameters.length) (hst : st = argsL.reverse ++ .ref a :: rest) (hW : (rest.map fun v => v.category).sum ≤ W) (hM : ConX l Z y bytes' maxL none [] rm (.ref a :: argsL).toArray h Pv Q) (hd : decode bytes pc = .ok (.invokespecial index, 3)) (hp : pc + 3 = pc') (hS : s.Since vm0 k0) (hk : k0 ≤ h.size) (hPs : Stays Pv) (hP : Pv vm0) (k : ∀ (v : Option Value) (T' : State) (L : List Loc), Stand p l e R (s.setVm T'.vm) m args below meth c T' (locs ++ L) (cells + rm.cells) (slots + rm.slots) → s.Since T'.vm T'.heap.size → T'.heap.size ≤ T'.heap.size → Z.Warmed39 T'.vm → T'.vm.findClass own = some m.cls → h.size ≤ T'.heap.size → Q v T'.heap T'.vm L → GoP p e below Φ (T'.setTop (mkF m pc' Ls (v.toList ++ rest)))) : GoP p e below Φ (T.setTop (mkF m pc Ls st)) := by
  obtain ⟨v, _, ⟨T', L', k', n'⟩, -, X', hS2, hg2, ⟨L, hQ, l1, y1, z1⟩, st'⟩ := X.specialBackS hx (y := y) hn hown (mvT (s := s.setVm vm0) hZ w1) (mvT (s := s.setVm vm0) hZ w2) (mvT (s := s.setVm vm0) hZ w4) hy (own_backX (W := W) hM hZ w4 w3 hf hl) (g := mkF m pc Ls st) rfl hml (Steps.refl _) (a := a) (argsL := argsL) (rest := rest) hlen hst (by show 2 * 0 + _ ≤ _; omega) (hb hby hd) (fun vm1 hv1 => ⟨rfl, eT, hc, hs, hPs s vm0 vm1 hv1 hP⟩)
  dsimp only [Pt.U, Pt.locs, Pt.cells, Pt.slots] at X' l1 y1 z1 st' hQ hS2 hg2
  subst l1 y1 z1 hp
  obtain ⟨X'', hS3, hZ3, hown3⟩ := rebS (n1 := T.heap.size) hS (by rw [eT]; exact hk) X' hS2 hg2 hZ hown
  exact own_trans st' (k _ _ _ X'' hS3 (Nat.le_refl _) hZ3 hown3 (by rw [← eT]; exact hg2) hQ)
/-- the String constant at own's entry i is booked at a, with these bytes -/
def LitL (Z : State) (own : String) (i : Nat) (bs : List Value) (h : Heap) (vm : Vm) : Prop := ∃ a b : Addr, Lit (Z.setVm vm) own i a ∧ Exa Z h a "java/lang/String" ∧ Fld Z h a "java/lang/String" "coder" "B" (.int 0) ∧ Fld Z h a "java/lang/String" "value" "[B" (.ref b) ∧ AV Z h b .byte bs
/-- .. or this case has loaded none of the texts but Ts yet -/
def LitS (Z : State) (own : String) (i : Nat) (bs : List Value) (Ts : List String) (h : Heap) (vm : Vm) : Prop := IB Z vm Ts ∨ LitL Z own i bs h vm
theorem own_litmove {own : String} {i : Nat} {a : Addr} {vm1 : Vm} (L : Lit (Z.setVm vm0) own i a) (hW : (s.setVm vm0).WarmedH vm1) : Lit (Z.setVm vm1) own i a := Lit.stays (s := s) (vm0 := vm0) L hW.wide
theorem own_litL_stays {own : String} {i : Nat} {bs : List Value} : Stays (LitL Z own i bs h) := fun s vm0 vm1 hW ⟨a, b, L, r⟩ => ⟨a, b, own_litmove (s := s) L hW, r⟩
theorem own_ib_stays {Ts : List String} : Stays (fun vm => IB Z vm Ts) := fun s vm0 vm1 hW ⟨more, e1, e2⟩ => ⟨more, by rw [← e1]; exact hW.interned_eq, e2⟩
theorem LitL.ext {own : String} {i : Nat} {bs : List Value} {vm : Vm} {h' : Heap} (F : LitL Z own i bs h vm) (E : Ext h h') : LitL Z own i bs h' vm := by
  obtain ⟨a, b, L, r1, r2, r3, r4⟩ := F; exact ⟨a, b, L, r1.ext E, r2.ext E, r3.ext E, r4.ext E⟩
theorem own_ldcA (X : Stand p l e R (s.setVm vm0) m args below meth c T locs cells slots) (hx : p.tables.exec = Jvm.exec) (hby : c.code = bytes) (hZ : Z.Warmed39 vm0) {own text : String} {i : Nat} (hown : vm0.findClass own = some m.cls) (w : (Jvm.Cond.stringLink own i text).before a0 Z = true) {a : Addr} (L : Lit (Z.setVm vm0) own i a) (hd : decode bytes pc = .ok (.ldc i, 2)) (hp : pc + 2 = pc') (k : GoP p e below Φ (T.setTop (mkF m pc' Ls (.ref a :: rest)))) : GoP p e below Φ (T.setTop (mkF m pc Ls (rest))) := by
  subst hp
  exact own_step (ldcAgain X hx hZ hown w L (g := mkF m pc Ls rest) rfl (hb hby hd)) k
theorem own_ne_av {a b : Addr} {C : String} {k : Nat} {ty : FieldType} {vs : List Value} (E : Exa Z h a C) (wi : (Jvm.Cond.instantiable C k).before a0 Z = true) (F : AV Z h b ty vs) : a ≠ b := by
  obtain ⟨cl, A, -⟩ := F; exact ne_arr E wi A
end OwnKitX
section OwnKitR
variable {p : Program} {l : Launch} {e : Env} {R : Room} {s : State} {m : MethodId} {args : Array Value} {below : List Frame} {meth : Method} {c : Code} {T : State} {locs : List Loc} {cells slots : Nat} {bytes : ByteArray} {Φ : State → Prop} {pc pc' : Nat} {Ls Ls' : Array Slot} {rest : List Value} {Z : State} {a0 : Array Value} {h h' : Heap} {a b y : Addr} {ty : FieldType} {vs vd : List Value} {v w : Value} {i : Nat} {C : String}
/-- the array at a is one of components of the class C -/
def CM (Z : State) (h : Heap) (a : Addr) (C : String) : Prop := ∃ cl : Cell, h[a]? = some cl ∧ (Ovr Z cl.cls C ∨ ∃ ty, OvrA Z cl.cls ty C)
theorem CM.lt (F : CM Z h a C) : a < h.size := by obtain ⟨cl, q, -⟩ := F; exact (Array.getElem?_eq_some_iff.mp q).1
theorem CM.ext (F : CM Z h a C) (E : Ext h h') : CM Z h' a C := by obtain ⟨cl, q, O⟩ := F; exact ⟨cl, E.2 _ _ q, O⟩
theorem CM.wr (F : CM Z h a C) (W : Wr h h' b i v) : CM Z h' a C := by
  obtain ⟨cl, q, O⟩ := F
  obtain ⟨c', e1, e2, -⟩ := wr_at W q
  exact ⟨c', e1, by rw [e2]; exact O⟩
theorem CM.keep {ws : List Addr} (F : CM Z h a C) (K : Keep h h' ws) : CM Z h' a C := by
  obtain ⟨cl, q, O⟩ := F
  obtain ⟨c', e1, e2, -⟩ := K.2.2 _ _ q
  exact ⟨c', e1, by rw [e2]; exact O⟩
theorem AV.arv (F : AV Z h a ty vs) (d : Value) (q : vs.all (fits ty) = true) : ∃ k, Arv Z h a k ty (Int32.ofNat vs.length) vs d := by
  obtain ⟨cl, A, r1, r2⟩ := F
  have S : cl.slots.size = vs.length := by rw [← r1, Array.length_toList]
  have N : (Int32.ofNat vs.length).toInt = vs.length := Int32.toInt_ofNat_small r2
  have Nn : (Int32.ofNat vs.length).toNatClampNeg = vs.length := by simp only [Int32.toNatClampNeg]; omega
  have z0 : (0 : Int32).toInt = 0 := by decide
  refine ⟨cl.cls, cl, A, rfl, by rw [Nn, S], fun u => by rw [Int32.lt_iff_toInt_lt, N, z0] at u; omega, fun i hi => ?_, fun i hi => ?_⟩
  · rw [← Array.getElem?_toList, r1, List.getD_eq_getElem?_getD, List.getElem?_eq_getElem (by rw [← S]; exact hi)]; rfl
  · rw [List.getD_eq_getElem?_getD, List.getElem?_eq_getElem (by rw [← S]; exact hi)]
    exact List.all_eq_true.mp q _ (List.getElem_mem _)
theorem AV.len (F : AV Z h a ty vs) : (Int32.ofNat vs.length).toNatClampNeg = vs.length := by
  obtain ⟨cl, A, r1, r2⟩ := F
  have N : (Int32.ofNat vs.length).toInt = vs.length := Int32.toInt_ofNat_small r2
  simp only [Int32.toNatClampNeg]; omega
theorem own_copyV (X : Stand p l e R s m args below meth c T locs cells slots) (hx : p.tables.exec = Jvm.exec) (hby : c.code = bytes) {dv : Value} (hZ : Z.Warmed39 s.vm) (hml : Ls.size = c.maxLocals) {own : String} {index : Nat} (hown : s.vm.findClass own = some m.cls) (w1 : (Jvm.Cond.methodLink own index Jvm.Stand.acN).before a0 Z = true) (w2 : (Jvm.Cond.native Jvm.Stand.acN).before a0 Z = true) (w3 : (Jvm.Cond.static Jvm.Stand.acN).before a0 Z = true) (w4 : (Jvm.Cond.initialized "java/lang/System").before a0 Z = true) (eT : T.heap = h) {sp dp nn : Int32} (A : AV Z h a ty vs) (B : AV Z h b ty vd) (qa : vs.all (fits ty) = true) (qb : vd.all (fits ty) = true) (hk : refKind ty = false) (h1 : ¬ sp < 0) (h2 : ¬ dp < 0) (h3 : ¬ nn < 0) (h4 : sp.toNatClampNeg + nn.toNatClampNeg ≤ vs.length) (h5 : dp.toNatClampNeg + nn.toNatClampNeg ≤ vd.length) {n0 : Nat} (N : Fr n0 locs) (ge : n0 ≤ b) (hf : 1 ≤ R.frames) (W : Nat) (hW : (rest.map fun v => v.category).sum ≤ W) (hlo : W + (nativeFrameWords "java/lang/System" "arraycopy" 5 + 11) ≤ R.locals) (hd : decode bytes pc = .ok (.invokestatic index, 3)) (hp : pc + 3 = pc') (k : ∀ (T' : State) (h' : Heap) (L : List Loc), Stand p l e R s m args below meth c T' L cells slots → T'.heap = h' → Fr n0 L → Keep h h' [b] → AV Z h' b ty (vd.take dp.toNatClampNeg ++ (List.range nn.toNatClampNeg).map (fun i => vs.getD (sp.toNatClampNeg + i) dv) ++ vd.drop (dp.toNatClampNeg + nn.toNatClampNeg)) → GoP p e below Φ (T'.setTop (mkF m pc' Ls rest))) : GoP p e below Φ (T.setTop (mkF m pc Ls (.int nn :: .int dp :: .ref b :: .int sp :: .ref a :: rest))) := by
  subst hp
  obtain ⟨k1, Av⟩ := A.arv dv qa
  obtain ⟨k2, Bv⟩ := B.arv dv qb
  obtain ⟨T', h', L, X', e', N', K', B', st'⟩ := cpA X hx hZ hown w1 w2 w3 w4 eT Av Bv (Or.inl ⟨rfl, hk⟩) h1 h2 h3 (by rw [A.len]; exact h4) (by rw [B.len]; exact h5) rfl h5 N ge (g := mkF m pc Ls (.int nn :: .int dp :: .ref b :: .int sp :: .ref a :: rest)) rfl hml rfl (hb hby hd) hf (W := W) (by show 2 * 0 + _ ≤ _; omega) hlo
  refine own_step st' (k T' h' L X' e' N' K' (AV.of B' ?_))
  rw [B.len, List.length_append, List.length_append, List.length_map, List.length_range, List.length_take, List.length_drop]; omega
end OwnKitR
section OwnKitS
variable {p : Program} {l : Launch} {e : Env} {R : Room} {s : State} {vm0 : Vm} {m : MethodId} {args : Array Value} {below : List Frame} {meth : Method} {c : Code} {T : State} {locs : List Loc} {cells slots : Nat} {bytes : ByteArray} {Φ : State → Prop} {pc pc' : Nat} {Ls Ls' : Array Slot} {rest : List Value} {Z : State} {a0 : Array Value} {h : Heap} {k0 : Nat}
theorem own_declares {y : MethodName} {b' : ByteArray} {n : Nat} {r : Option FieldType} (w6 : (Jvm.Cond.instanceMethod y).before a0 Z = true) (w4 : (Jvm.Cond.code y b' n r).before a0 Z = true) : (Jvm.Cond.declares y).before a0 Z = true := by
  obtain ⟨mk, methM, hnamed, hmethM, hst, -⟩ := Cond.instanceMethod_spec w6
  obtain ⟨m2, cM, q1, -, -, -, -, -, -, hsig⟩ := Cond.code_spec hnamed w4
  cases hmethM.symm.trans q1
  simp [Cond.before, Cond.holds, Cond.value, hnamed, hmethM, hst, hsig]
theorem own_noface {y z : MethodName} {C : String} (hc : z.cls = y.cls) (w : (Jvm.Cond.selects C z z).before args s = true) : NotFace s y := fun r0 h0 => by
  obtain ⟨c2, r2, m2, -, -, q3, -, kP, hkP, hkPi⟩ := Cond.selects_spec w
  have e1 := findClass_of_methodNamed h0
  have e2 := findClass_of_methodNamed q3
  rw [hc, e1] at e2
  rw [Option.some.inj e2]
  exact ⟨kP, hkP, hkPi⟩
theorem own_same {y z : MethodName} {C : String} (w6 : (Jvm.Cond.instanceMethod y).before a0 Z = true) (hc : z.cls = y.cls) (w : (Jvm.Cond.selects C z z).before a0 Z = true) (hy : y.cls ≠ "java/lang/invoke/MethodHandle" ∧ y.cls ≠ "java/lang/invoke/VarHandle") : (Jvm.Cond.sameMethod y.cls y.cls y.name y.desc).before a0 Z = true := by
  obtain ⟨mk, methM, hnamed, -, -, -⟩ := Cond.instanceMethod_spec w6
  obtain ⟨kP, hkP, hkPi⟩ := own_noface hc w mk hnamed
  have e1 := findClass_of_methodNamed hnamed
  have hf := State.methodFound?_of_named hnamed hy
  obtain ⟨yc, yn, yd⟩ := y
  dsimp only at e1 hf
  simp [Cond.before, Cond.holds, Cond.value, e1, hf, hnamed, hkP, hkPi]
theorem own_join {f g' : JFrame} (X : Stand p l e R s m args below meth c T locs cells slots) (eT : T.heap = h) (J : ∀ T' : State, Stand p l e R s m args below meth c T' locs cells slots → T'.heap = h → GoP p e below Φ (T'.setTop f)) (k : (∀ T' : State, Stand p l e R s m args below meth c T' locs cells slots → T'.heap = h → GoP p e below Φ (T'.setTop f)) → GoP p e below Φ (T.setTop g')) : GoP p e below Φ (T.setTop g') := k J
theorem own_callZ (X : Stand p l e R s m args below meth c T locs cells slots) (hx : p.tables.exec = Jvm.exec) (hby : c.code = bytes) (hZ : Z.Warmed39 s.vm) (hml : Ls.size = c.maxLocals) {own : String} {index : Nat} {x0 y : MethodName} (hown : s.vm.findClass own = some m.cls) {C : String} {b : Addr} {z : MethodName} (w1 : (Jvm.Cond.methodLink own index x0).before a0 Z = true) (w2 : (Jvm.Cond.declares x0).before a0 Z = true) (hc' : z.cls = x0.cls) (wz : (Jvm.Cond.selects C z z).before a0 Z = true) (w5 : (Jvm.Cond.selects C x0 y).before a0 Z = true) (w6 : (Jvm.Cond.instanceMethod y).before a0 Z = true) (w3 : (Jvm.Cond.initialized y.cls).before a0 Z = true) {bytes' : ByteArray} {maxL : Nat} {ret : Option FieldType} (w4 : (Jvm.Cond.code y bytes' maxL ret).before a0 Z = true) (hy : x0.cls ≠ "java/lang/invoke/MethodHandle" ∧ x0.cls ≠ "java/lang/invoke/VarHandle") {rm : Room} {Q : Option Value → Heap → List Loc → Prop} (eT : T.heap = h) (W : Nat) (hf : rm.frames + 1 ≤ R.frames) (hl : W + (maxL + 11) + rm.locals ≤ R.locals) (hc : cells + rm.cells ≤ R.cells) (hs : slots + rm.slots ≤ R.slots) {argsL rest : List Value} {st : List Value} (hlen : ∀ sig, parseMethodDescriptor x0.desc = some sig → argsL.length = sig.parameters.length) (hst : st = argsL.reverse ++ .ref b :: rest) (hW : (rest.map fun v => v.category).sum ≤ W) (E : Exa Z h b C) (hM : Con l Z y bytes' maxL ret [] rm (.ref b :: argsL).toArray h Q) (hd : decode bytes pc = .ok (.invokevirtual index, 3)) (hp : pc + 3 = pc') (k : ∀ (v : Option Value) (T' : State) (L : List Loc), Stand p l e R s m args below meth c T' (locs ++ L) (cells + rm.cells) (slots + rm.slots) → Q v T'.heap L → GoP p e below Φ (T'.setTop (mkF m pc' Ls (v.toList ++ rest)))) : GoP p e below Φ (T.setTop (mkF m pc Ls st)) := by
  obtain ⟨cq, kq, qa, qb, qc⟩ := isOf hZ eT E
  obtain ⟨v, _, ⟨T', L', k', n'⟩, -, X', ⟨L, hQ, l1, y1, z1⟩, st'⟩ := X.virtualBack hx (y := x0) (z := y) hown (mvT hZ w1) (mvT hZ w2) (own_noface (args := #[]) hc' (mvT hZ wz)) (mvT hZ w5) (mvT hZ w6) hy (backOf (W := W) hM hZ w4 w3 hf hl) qa qc (g := mkF m pc Ls st) rfl hml (Steps.refl _) (argsL := argsL) (rest := rest) hlen hst (by show 2 * 0 + _ ≤ _; omega) (hb hby hd) (fun _ _ => ⟨rfl, eT, hc, hs⟩)
  dsimp only [Pt.U, Pt.locs, Pt.cells, Pt.slots] at X' l1 y1 z1 st' hQ
  subst l1 y1 z1 hp
  exact own_trans st' (k _ _ _ X' hQ)
theorem own_callSup (X : Stand p l e R s m args below meth c T locs cells slots) (hx : p.tables.exec = Jvm.exec) (hby : c.code = bytes) (hZ : Z.Warmed39 s.vm) (hml : Ls.size = c.maxLocals) {own : String} {index : Nat} {y : MethodName} (hown : s.vm.findClass own = some m.cls) {C : String} {b : Addr} (hn : y.name ≠ "<init>") (w1 : (Jvm.Cond.methodLink own index y).before a0 Z = true) (w2 : (Jvm.Cond.sameMethod y.cls y.cls y.name y.desc).before a0 Z = true) (w6 : (Jvm.Cond.instanceMethod y).before a0 Z = true) (w7 : (Jvm.Cond.superclass own y.cls).before a0 Z = true) (w3 : (Jvm.Cond.initialized y.cls).before a0 Z = true) {bytes' : ByteArray} {maxL : Nat} {ret : Option FieldType} (w4 : (Jvm.Cond.code y bytes' maxL ret).before a0 Z = true) {rm : Room} {Q : Option Value → Heap → List Loc → Prop} (eT : T.heap = h) (W : Nat) (hf : rm.frames + 1 ≤ R.frames) (hl : W + (maxL + 11) + rm.locals ≤ R.locals) (hc : cells + rm.cells ≤ R.cells) (hs : slots + rm.slots ≤ R.slots) {argsL rest : List Value} {st : List Value} (hlen : ∀ sig, parseMethodDescriptor y.desc = some sig → argsL.length = sig.parameters.length) (hst : st = argsL.reverse ++ .ref b :: rest) (hW : (rest.map fun v => v.category).sum ≤ W) (E : Exa Z h b C) (hM : Con l Z y bytes' maxL ret [] rm (.ref b :: argsL).toArray h Q) (hd : decode bytes pc = .ok (.invokespecial index, 3)) (hp : pc + 3 = pc') (k : ∀ (v : Option Value) (T' : State) (L : List Loc), Stand p l e R s m args below meth c T' (locs ++ L) (cells + rm.cells) (slots + rm.slots) → Q v T'.heap L → GoP p e below Φ (T'.setTop (mkF m pc' Ls (v.toList ++ rest)))) : GoP p e below Φ (T.setTop (mkF m pc Ls st)) := by
  obtain ⟨v, _, ⟨T', L', k', n'⟩, -, X', ⟨L, hQ, l1, y1, z1⟩, st'⟩ := superBack X hx hZ (y := y) hown w1 w2 w6 w7 hn (backOf (W := W) hM hZ w4 w3 hf hl) eT (Ins.self E) (g := mkF m pc Ls st) rfl hml w4 (argsL := argsL) (rest := rest) hlen hst (by show 2 * 0 + _ ≤ _; omega) (hb hby hd) (fun _ _ => ⟨rfl, eT, hc, hs⟩)
  dsimp only [Pt.U, Pt.locs, Pt.cells, Pt.slots] at X' l1 y1 z1 st' hQ
  subst l1 y1 z1 hp
  exact own_trans st' (k _ _ _ X' hQ)
theorem own_ibmono {Ts Us : List String} (I : IB Z vm0 Ts) (q : ∀ t ∈ Ts, t ∈ Us) : IB Z vm0 Us := by
  obtain ⟨more, e1, e2⟩ := I
  exact ⟨more, e1, fun x hx => by obtain ⟨t, ht, hd⟩ := e2 x hx; exact ⟨t, q t ht, hd⟩⟩
/-- "" is loaded, and nothing else -/
def LitB (Z : State) (h : Heap) (vm : Vm) : Prop := IB Z vm [""] ∧ LitL Z "java/lang/String" 7 [] h vm
/-- nothing is loaded, or "" alone -/
def LitT (Z : State) (h : Heap) (vm : Vm) : Prop := IB Z vm [] ∨ LitB Z h vm
theorem own_litB_stays : Stays (LitB Z h) := fun s vm0 vm1 hW q => ⟨own_ib_stays s vm0 vm1 hW q.1, own_litL_stays s vm0 vm1 hW q.2⟩
theorem own_litT_stays : Stays (LitT Z h) := fun s vm0 vm1 hW q => q.imp (own_ib_stays s vm0 vm1 hW) (own_litB_stays s vm0 vm1 hW)
theorem LitL.keep {own : String} {i : Nat} {bs : List Value} {vm : Vm} {h' : Heap} {ws : List Addr} (F : LitL Z own i bs h vm) (K : Keep h h' ws) (q : ∀ a ∈ ws, h.size ≤ a) : LitL Z own i bs h' vm := by
  obtain ⟨a, b, L, r1, r2, r3, r4⟩ := F
  have n1 : a ∉ ws := fun u => Nat.not_lt.mpr (q a u) r1.lt
  have n2 : b ∉ ws := fun u => Nat.not_lt.mpr (q b u) r4.lt
  exact ⟨a, b, L, r1.keep K, r2.keep K n1, r3.keep K n1, r4.keep K n2⟩
theorem LitT.keep {vm : Vm} {h' : Heap} {ws : List Addr} (F : LitT Z h vm) (K : Keep h h' ws) (q : ∀ a ∈ ws, h.size ≤ a) : LitT Z h' vm := F.imp id fun u => ⟨u.1, u.2.keep K q⟩
theorem LitT.ib {vm : Vm} (F : LitT Z h vm) : IB Z vm [""] := by
  rcases F with q | q
  · exact own_ibmono q (by simp)
  · exact q.1
theorem own_ldcB (X : Stand p l e R (s.setVm vm0) m args below meth c T locs cells slots) (hx : p.tables.exec = Jvm.exec) (hby : c.code = bytes) (hZ : Z.Warmed39 vm0) {own text : String} {i : Nat} (hown : vm0.findClass own = some m.cls) (w : (Jvm.Cond.stringLink own i text).before a0 Z = true) (wS : ∀ a ∈ Bundle.stringAtoms, a.before a0 Z = true) (eT : T.heap = h) (hS : s.Since vm0 k0) (hk : k0 ≤ h.size) (N : Fr s.heap.size locs) (hO : Ext Z.heap s.heap) (hh : Jvm.Lit.constHeld Z own i) (hcw : Jvm.Lit.compactW.before a0 Z = true) {Ts : List String} {bs : List Value} {z : Int32} (ht : (∀ c ∈ text.toList, c.toNat < 256) ∧ text.toList.map (fun c => Value.int (Jvm.Lit.byteI c.toNat.toUInt16)) = bs) (hz : ¬ z < 0) (hl : z.toNatClampNeg = bs.length) (hnot : text ∉ Ts) (I : IB Z vm0 Ts) (hd : decode bytes pc = .ok (.ldc i, 2)) (n : Nat) (hn : 4 * text.toList.length ≤ n) (hbig : n ≤ 536870912) (hc : cells + 2 ≤ R.cells) (hl' : slots + (n + 4) ≤ R.slots) (hp : pc + 2 = pc')
    (k : ∀ (a b : Addr) (T' : State) (h' : Heap) (vm' : Vm) (k1 : Nat), Stand p l e R (s.setVm vm') m args below meth c T' locs (cells + 2) (slots + (n + 4)) → T'.heap = h' → Ext h h' → s.Since vm' k1 → k1 ≤ h'.size → Z.Warmed39 vm' → vm'.findClass own = some m.cls → Lit (Z.setVm vm') own i a → Exa Z h' a "java/lang/String" → Fld Z h' a "java/lang/String" "coder" "B" (.int 0) → Fld Z h' a "java/lang/String" "value" "[B" (.ref b) → AV Z h' b .byte bs → IB Z vm' (text :: Ts) → GoP p e below Φ (T'.setTop (mkF m pc' Ls (.ref a :: rest)))) : GoP p e below Φ (T.setTop (mkF m pc Ls (rest))) := by
  subst hp
  obtain ⟨a, T', h', k1, b, kk, X', e', E', hS', hk', hZ', hown', x1, x2, x3, x4, -, -, I', L', st'⟩ := ldcSVL X hx hZ hown w wS eT hS hk N (fun b cl q => hO.2 b cl q) I hnot hh hcw ht hz hl (g := mkF m pc Ls rest) rfl (hb hby hd) hn hbig hc hl'
  exact own_step st' (k a b T' h' T'.vm k1 X' e' E' hS' hk' hZ' hown' L' x1 x2 x3 (AV.of x4 hl.symm) I')
theorem own_ldcT (X : Stand p l e R (s.setVm vm0) m args below meth c T locs cells slots) (hx : p.tables.exec = Jvm.exec) (hby : c.code = bytes) (hZ : Z.Warmed39 vm0) {own text : String} {i : Nat} (hown : vm0.findClass own = some m.cls) (w : (Jvm.Cond.stringLink own i text).before a0 Z = true) (wS : ∀ a ∈ Bundle.stringAtoms, a.before a0 Z = true) (eT : T.heap = h) (hS : s.Since vm0 k0) (hk : k0 ≤ h.size) (N : Fr s.heap.size locs) (hO : Ext Z.heap s.heap) (hh : Jvm.Lit.constHeld Z own i) (hcw : Jvm.Lit.compactW.before a0 Z = true) {Ts : List String} {bs : List Value} {z : Int32} (ht : (∀ c ∈ text.toList, c.toNat < 256) ∧ text.toList.map (fun c => Value.int (Jvm.Lit.byteI c.toNat.toUInt16)) = bs) (hz : ¬ z < 0) (hl : z.toNatClampNeg = bs.length) (hnot : text ∉ Ts) (LS : IB Z vm0 Ts ∨ (IB Z vm0 (text :: Ts) ∧ LitL Z own i bs h vm0)) (hd : decode bytes pc = .ok (.ldc i, 2)) (n : Nat) (hn : 4 * text.toList.length ≤ n) (hbig : n ≤ 536870912) (hc : cells + 2 ≤ R.cells) (hl' : slots + (n + 4) ≤ R.slots) (hp : pc + 2 = pc')
    (k : ∀ (a b : Addr) (T' : State) (h' : Heap) (vm' : Vm) (k1 : Nat), Stand p l e R (s.setVm vm') m args below meth c T' locs (cells + 2) (slots + (n + 4)) → T'.heap = h' → Ext h h' → s.Since vm' k1 → k1 ≤ h'.size → Z.Warmed39 vm' → vm'.findClass own = some m.cls → Lit (Z.setVm vm') own i a → Exa Z h' a "java/lang/String" → Fld Z h' a "java/lang/String" "coder" "B" (.int 0) → Fld Z h' a "java/lang/String" "value" "[B" (.ref b) → AV Z h' b .byte bs → IB Z vm' (text :: Ts) → GoP p e below Φ (T'.setTop (mkF m pc' Ls (.ref a :: rest)))) : GoP p e below Φ (T.setTop (mkF m pc Ls (rest))) := by
  subst hp
  rcases LS with I | ⟨I, a, b, L, r1, r2, r3, r4⟩
  · obtain ⟨a, T', h', k1, b, kk, X', e', E', hS', hk', hZ', hown', x1, x2, x3, x4, -, -, I', L', st'⟩ := ldcSVL X hx hZ hown w wS eT hS hk N (fun b cl q => hO.2 b cl q) I hnot hh hcw ht hz hl (g := mkF m pc Ls rest) rfl (hb hby hd) hn hbig hc hl'
    exact own_step st' (k a b T' h' T'.vm k1 X' e' E' hS' hk' hZ' hown' L' x1 x2 x3 (AV.of x4 hl.symm) I')
  · have st' := ldcAgain X hx hZ hown w L (g := mkF m pc Ls rest) rfl (hb hby hd)
    exact own_step st' (k a b T h vm0 k0 (X.mono (by omega) (by omega)) eT ⟨Nat.le_refl _, fun _ _ q => q⟩ hS hk hZ hown L r1 r2 r3 r4 I)
theorem own_ldcN (X : Stand p l e R (s.setVm vm0) m args below meth c T locs cells slots) (hx : p.tables.exec = Jvm.exec) (hby : c.code = bytes) (hZ : Z.Warmed39 vm0) {own text : String} {i : Nat} (hown : vm0.findClass own = some m.cls) (w : (Jvm.Cond.stringLink own i text).before a0 Z = true) (wS : ∀ a ∈ Bundle.stringAtoms, a.before a0 Z = true) (eT : T.heap = h) (hS : s.Since vm0 k0) (hk : k0 ≤ h.size) (N : Fr s.heap.size locs) (hO : Ext Z.heap s.heap) (hh : Jvm.Lit.constHeld Z own i) (hcw : Jvm.Lit.compactW.before a0 Z = true) {Ts : List String} {z : Int32} (ht : ∀ c ∈ text.toList, c.toNat < 256) (hz : ¬ z < 0) (hl : z.toNatClampNeg = text.toList.length) (hnot : text ∉ Ts) (I : IB Z vm0 Ts) (hd : decode bytes pc = .ok (.ldc i, 2)) (n : Nat) (hn : 4 * text.toList.length ≤ n) (hbig : n ≤ 536870912) (hc : cells + 2 ≤ R.cells) (hl' : slots + (n + 4) ≤ R.slots) (hp : pc + 2 = pc')
    (k : ∀ (a : Addr) (T' : State) (h' : Heap) (vm' : Vm) (k1 : Nat), Stand p l e R (s.setVm vm') m args below meth c T' locs (cells + 2) (slots + (n + 4)) → T'.heap = h' → Ext h h' → s.Since vm' k1 → k1 ≤ h'.size → Z.Warmed39 vm' → vm'.findClass own = some m.cls → IB Z vm' (text :: Ts) → GoP p e below Φ (T'.setTop (mkF m pc' Ls (.ref a :: rest)))) : GoP p e below Φ (T.setTop (mkF m pc Ls (rest))) := by
  subst hp
  obtain ⟨a, T', h', k1, b, kk, X', e', E', hS', hk', hZ', hown', x1, x2, x3, x4, -, -, I', L', st'⟩ := ldcSVL X hx hZ hown w wS eT hS hk N (fun b cl q => hO.2 b cl q) I hnot hh hcw ⟨ht, rfl⟩ hz (by rw [List.length_map]; exact hl) (g := mkF m pc Ls rest) rfl (hb hby hd) hn hbig hc hl'
  exact own_step st' (k a T' h' T'.vm k1 X' e' E' hS' hk' hZ' hown' I')
end OwnKitS
end Jvm.Pilot.@@N@@
namespace Jvm.Pilot.@@N@@
open Jvm Jvm.ClassFile Sem Op Lib Jvm.Free Jvm.Stand Jvm.LawKit Jvm.RoadKit Bundle Jvm.Pilot.@@N@@.Jvm.D
theorem own_strs0 : ∀ a ∈ Bundle.stringAtoms, a ∈ tables_1 := by decide +kernel
theorem own_strs {Z : State} {a0 : Array Value} (hw : ∀ d ∈ tables_1, d.before a0 Z = true) : ∀ a ∈ Bundle.stringAtoms, a.before a0 Z = true := fun a q => hw a (own_strs0 a q)
theorem own_z0 : (0 : Int32).toInt = 0 := by decide
theorem own_z1 : (1 : Int32).toInt = 1 := by decide
theorem own_z16i : (16 : Int32).toInt = 16 := by decide
theorem own_cl {x : Int32} (h1 : 0 ≤ x.toInt) : (x.toNatClampNeg : Int) = x.toInt := by simp only [Int32.toNatClampNeg]; omega
theorem own_shr0 (x : Int32) : (x >>> ((0 : Int32) &&& 31)) = x := by
  apply Int32.toInt_inj.mp
  have a := c_ishr x 0 0 (by decide)
  omega
theorem own_shl0 (x : Int32) : (x <<< ((0 : Int32) &&& 31)) = x := by
  apply Int32.toInt_inj.mp
  have a := c_ishl x 0 0 (by decide)
  have b := rng32 x
  have c := rng32 (x <<< ((0 : Int32) &&& 31))
  omega
theorem own_sub0 (x : Int32) : x - (0 : Int32) = x := by
  apply Int32.toInt_inj.mp
  have b := rng32 x
  exact own_sub32 (by rw [own_z0]; omega) (by omega) (by omega)
theorem own_room {x : Int32} (h0 : 0 ≤ x.toInt) (h : x.toInt ≤ 16) : ¬ (0 : Int32) < (x - (16 : Int32)) := by
  have e := own_sub32 (x := x) (y := (16 : Int32)) (k := x.toInt - 16) (by rw [own_z16i]) (by omega) (by omega)
  exact own_geI (by rw [own_z0, e]; omega)
def own_z16 : List Value := [.int 0, .int 0, .int 0, .int 0, .int 0, .int 0, .int 0, .int 0, .int 0, .int 0, .int 0, .int 0, .int 0, .int 0, .int 0, .int 0]
/-- ys over xs, from k on, n of them -/
def own_put (xs ys : List Value) (k n : Int32) : List Value := xs.take k.toNatClampNeg ++ (List.range n.toNatClampNeg).map (fun i => ys.getD ((0 : Int32).toNatClampNeg + i) (.int 0)) ++ xs.drop (k.toNatClampNeg + n.toNatClampNeg)
theorem own_putlen {xs : List Value} (ys : List Value) {k n : Int32} (h : k.toNatClampNeg + n.toNatClampNeg ≤ xs.length) : (own_put xs ys k n).length = xs.length := by
  simp only [own_put, List.length_append, List.length_take, List.length_map, List.length_range, List.length_drop]; omega
theorem own_putfit {xs ys : List Value} (k n : Int32) (hx : xs.all (fits .byte) = true) (hy : ys.all (fits .byte) = true) : (own_put xs ys k n).all (fits .byte) = true := by
  rw [List.all_eq_true] at *
  intro v hv
  simp only [own_put, List.mem_append, List.mem_map] at hv
  rcases hv with (hv | ⟨i, -, rfl⟩) | hv
  · exact hx v (List.mem_of_mem_take hv)
  · rw [List.getD_eq_getElem?_getD]
    cases q : ys[(0 : Int32).toNatClampNeg + i]? with
    | none => decide
    | some w => exact hy w (List.mem_of_getElem? q)
  · exact hx v (List.mem_of_mem_drop hv)
theorem own_repfit (n : Nat) : (List.replicate n (Value.int 0)).all (fits .byte) = true := List.all_eq_true.mpr fun x hx => by rw [List.eq_of_mem_replicate hx]; decide
/-- a short text -/
def own_sh (vs : List Value) (n : Int32) : Prop := (vs = [] ∧ n = 0) ∨ (∃ x, vs = [.int (nar .byte x)] ∧ n = 1) ∨ (∃ x y, vs = [.int (nar .byte x), .int (nar .byte y)] ∧ n = 2) ∨ (∃ x y z, vs = [.int (nar .byte x), .int (nar .byte y), .int (nar .byte z)] ∧ n = 3)
theorem own_fb (x : Int32) : fits .byte (.int (nar .byte x)) = true := fits_nar_byte x
theorem own_shF {vs : List Value} {n : Int32} (h : own_sh vs n) : Int32.ofNat vs.length = n ∧ vs.all (fits .byte) = true ∧ 0 ≤ n.toInt ∧ n.toInt ≤ 3 ∧ (vs.length : Int) = n.toInt := by
  rcases h with ⟨rfl, rfl⟩ | ⟨x, rfl, rfl⟩ | ⟨x, y, rfl, rfl⟩ | ⟨x, y, z, rfl, rfl⟩
  · exact ⟨rfl, rfl, by decide, by decide, rfl⟩
  · exact ⟨rfl, by simp only [List.all_cons, List.all_nil, own_fb, Bool.and_self], by decide, by decide, rfl⟩
  · exact ⟨rfl, by simp only [List.all_cons, List.all_nil, own_fb, Bool.and_self], by decide, by decide, rfl⟩
  · exact ⟨rfl, by simp only [List.all_cons, List.all_nil, own_fb, Bool.and_self], by decide, by decide, rfl⟩
theorem own_whole {ns ls : List Value} {n m : Int32} (hN : own_sh ns n) (hL : own_sh ls m) : own_put (List.replicate ((((0 : Int32) + n) + (1 : Int32)) + m).toNatClampNeg (.int 0)) (own_put (own_put (own_put own_z16 ns (0 : Int32) n) [.int 32] ((0 : Int32) + n) (1 : Int32)) ls (((0 : Int32) + n) + (1 : Int32)) m) (0 : Int32) ((((0 : Int32) + n) + (1 : Int32)) + m) = ns ++ .int 32 :: ls := by
  rcases hN with ⟨rfl, rfl⟩ | ⟨x, rfl, rfl⟩ | ⟨x, y, rfl, rfl⟩ | ⟨x, y, z, rfl, rfl⟩ <;> rcases hL with ⟨rfl, rfl⟩ | ⟨x', rfl, rfl⟩ | ⟨x', y', rfl, rfl⟩ | ⟨x', y', z', rfl, rfl⟩ <;> rfl
def own_chr (bits i : Int32) : Int32 := (((bits.toUInt32 >>> (((8 : Int32) * i) &&& 31).toUInt32).toInt32) &&& (255 : Int32)).toUInt32.toUInt16.toUInt32.toInt32
def own_by (bits i : Int32) : Int32 := nar .byte ((nar .char (own_chr bits i)).toInt8.toInt32)
def own_uc (x : Int32) : Int32 := (x &&& (255 : Int32)).toUInt32.toUInt16.toUInt32.toInt32
theorem own_narC (x : Int32) : narrow .char (.int x.toUInt32.toUInt16.toUInt32.toInt32) = .int x.toUInt32.toUInt16.toUInt32.toInt32 := by
  have a := c_i2c x
  have b := c_i2c x.toUInt32.toUInt16.toUInt32.toInt32
  show Value.int _ = Value.int _
  congr 1
  apply Int32.toInt_inj.mp
  omega
theorem own_chrR (bits i : Int32) : 0 ≤ (own_chr bits i).toInt ∧ (own_chr bits i).toInt < 256 := by
  unfold own_chr
  generalize (bits.toUInt32 >>> (((8 : Int32) * i) &&& 31).toUInt32).toInt32 = q
  have a := c_mask q 255 8 (by decide) (by decide)
  have b := c_i2c (q &&& (255 : Int32))
  omega
theorem own_chrN (bits i : Int32) : ¬ (255 : Int32) < nar .char (own_chr bits i) := by
  have a := own_chrR bits i
  have c := c_i2c (own_chr bits i)
  have e : (255 : Int32).toInt = 255 := by decide
  simp only [nar, Int32.lt_iff_toInt_lt, e]
  omega
theorem own_ucby (bits i : Int32) : own_uc (own_by bits i) = own_chr bits i := by
  have a := own_chrR bits i
  have c := c_i2c (own_chr bits i)
  apply Int32.toInt_inj.mp
  unfold own_uc own_by
  simp only [nar]
  generalize own_chr bits i = x at *
  have d := c_i2b x.toUInt32.toUInt16.toUInt32.toInt32
  generalize x.toUInt32.toUInt16.toUInt32.toInt32 = x1 at *
  have f := c_i2b x1.toInt8.toInt32
  generalize x1.toInt8.toInt32 = x2 at *
  generalize x2.toInt8.toInt32 = x3 at *
  have g := c_mask x3 255 8 (by decide) (by decide)
  have k := c_i2c (x3 &&& (255 : Int32))
  omega
theorem own_uc32 : own_uc (32 : Int32) = (32 : Int32) := by decide
/-- the bytes that mk makes -/
def own_mkb (n bits : Int32) : List Value := if n = (0 : Int32) then [] else if n = (1 : Int32) then [.int (own_by bits 0)] else if n = (2 : Int32) then [.int (own_by bits 0), .int (own_by bits 1)] else [.int (own_by bits 0), .int (own_by bits 1), .int (own_by bits 2)]
def own_four (n : Int32) : Prop := n = 0 ∨ n = 1 ∨ n = 2 ∨ n = 3
theorem own_mask4 (x : Int32) : own_four (x &&& (3 : Int32)) := by
  have a := c_mask x 3 2 (by decide) (by decide)
  have k : (x &&& (3 : Int32)).toInt = 0 ∨ (x &&& (3 : Int32)).toInt = 1 ∨ (x &&& (3 : Int32)).toInt = 2 ∨ (x &&& (3 : Int32)).toInt = 3 := by omega
  rcases k with q | q | q | q
  · exact Or.inl (Int32.toInt_inj.mp (q.trans (by decide)))
  · exact Or.inr (Or.inl (Int32.toInt_inj.mp (q.trans (by decide))))
  · exact Or.inr (Or.inr (Or.inl (Int32.toInt_inj.mp (q.trans (by decide)))))
  · exact Or.inr (Or.inr (Or.inr (Int32.toInt_inj.mp (q.trans (by decide)))))
theorem own_mksh {n : Int32} (h : own_four n) (bits : Int32) : own_sh (own_mkb n bits) n := by
  rcases h with rfl | rfl | rfl | rfl
  · exact Or.inl ⟨rfl, rfl⟩
  · exact Or.inr (Or.inl ⟨_, rfl, rfl⟩)
  · exact Or.inr (Or.inr (Or.inl ⟨_, _, rfl, rfl⟩))
  · exact Or.inr (Or.inr (Or.inr ⟨_, _, _, rfl, rfl⟩))
def own_all (n m p q : Int32) : List Value := own_mkb n p ++ .int 32 :: own_mkb m q
theorem own_alllen {n m : Int32} (hn : own_four n) (hm : own_four m) (p q : Int32) : Int32.ofNat (own_all n m p q).length = ((n + (1 : Int32)) + m) := by
  rcases hn with rfl | rfl | rfl | rfl <;> rcases hm with rfl | rfl | rfl | rfl <;> rfl
theorem own_a0 {n m : Int32} (hn : own_four n) (hm : own_four m) (p q : Int32) (h : (0 : Int32) < n) : (own_all n m p q)[(0 : Int32).toNatClampNeg]? = some (.int (own_by p 0)) ∧ ¬ (0 : Int32) < 0 ∧ (0 : Int32) < ((n + (1 : Int32)) + m) := by
  rcases hn with rfl | rfl | rfl | rfl <;> first | exact absurd h (by decide) | (rcases hm with rfl | rfl | rfl | rfl <;> exact ⟨rfl, by decide, by decide⟩)
theorem own_a1 {n m : Int32} (hn : own_four n) (hm : own_four m) (p q : Int32) (h : (1 : Int32) < n) : (own_all n m p q)[(1 : Int32).toNatClampNeg]? = some (.int (own_by p 1)) ∧ ¬ (1 : Int32) < 0 ∧ (1 : Int32) < ((n + (1 : Int32)) + m) := by
  rcases hn with rfl | rfl | rfl | rfl <;> first | exact absurd h (by decide) | (rcases hm with rfl | rfl | rfl | rfl <;> exact ⟨rfl, by decide, by decide⟩)
theorem own_a2 {n m : Int32} (hn : own_four n) (hm : own_four m) (p q : Int32) (h : (2 : Int32) < n) : (own_all n m p q)[(2 : Int32).toNatClampNeg]? = some (.int (own_by p 2)) ∧ ¬ (2 : Int32) < 0 ∧ (2 : Int32) < ((n + (1 : Int32)) + m) := by
  rcases hn with rfl | rfl | rfl | rfl <;> first | exact absurd h (by decide) | (rcases hm with rfl | rfl | rfl | rfl <;> exact ⟨rfl, by decide, by decide⟩)
theorem own_a3 {n m : Int32} (hn : own_four n) (hm : own_four m) (p q : Int32) : (own_all n m p q)[n.toNatClampNeg]? = some (.int (32 : Int32)) ∧ ¬ n < 0 ∧ n < ((n + (1 : Int32)) + m) := by
  rcases hn with rfl | rfl | rfl | rfl <;> rcases hm with rfl | rfl | rfl | rfl <;> exact ⟨rfl, by decide, by decide⟩
theorem own_b0 {n m : Int32} (hn : own_four n) (hm : own_four m) (p q : Int32) (h : (0 : Int32) < m) : (own_all n m p q)[(n + (1 : Int32)).toNatClampNeg]? = some (.int (own_by q 0)) ∧ ¬ (n + (1 : Int32)) < 0 ∧ (n + (1 : Int32)) < ((n + (1 : Int32)) + m) := by
  rcases hm with rfl | rfl | rfl | rfl <;> first | exact absurd h (by decide) | (rcases hn with rfl | rfl | rfl | rfl <;> exact ⟨rfl, by decide, by decide⟩)
theorem own_b1 {n m : Int32} (hn : own_four n) (hm : own_four m) (p q : Int32) (h : (1 : Int32) < m) : (own_all n m p q)[(n + (2 : Int32)).toNatClampNeg]? = some (.int (own_by q 1)) ∧ ¬ (n + (2 : Int32)) < 0 ∧ (n + (2 : Int32)) < ((n + (1 : Int32)) + m) := by
  rcases hm with rfl | rfl | rfl | rfl <;> first | exact absurd h (by decide) | (rcases hn with rfl | rfl | rfl | rfl <;> exact ⟨rfl, by decide, by decide⟩)
theorem own_b2 {n m : Int32} (hn : own_four n) (hm : own_four m) (p q : Int32) (h : (2 : Int32) < m) : (own_all n m p q)[(n + (3 : Int32)).toNatClampNeg]? = some (.int (own_by q 2)) ∧ ¬ (n + (3 : Int32)) < 0 ∧ (n + (3 : Int32)) < ((n + (1 : Int32)) + m) := by
  rcases hm with rfl | rfl | rfl | rfl <;> first | exact absurd h (by decide) | (rcases hn with rfl | rfl | rfl | rfl <;> exact ⟨rfl, by decide, by decide⟩)
theorem ef_rmCo (m : MethodId) (x0 : Addr) : entryFrame m #[(.ref x0)] 1 = mkF m 0 #[.val (.ref x0)] [] := by first | (simp [entryFrame, mkF, argsToLocals, Value.category]; done) | rfl
theorem pn_java_lang_String : plainName "java/lang/String" = true := by first | (simp [plainName, overriddenIn]; done) | decide +kernel
theorem jd_42_152__0 : decode jdk_42_method_152_code 0 = .ok (.getstatic 38, 3) := by decide +kernel
theorem jd_42_152__3 : decode jdk_42_method_152_code 3 = .ok (.ifCond .eq 10, 3) := by decide +kernel
theorem jd_42_152__6 : decode jdk_42_method_152_code 6 = .ok (.aload_n 0, 1) := by decide +kernel
theorem jd_42_152__7 : decode jdk_42_method_152_code 7 = .ok (.getfield 15, 3) := by decide +kernel
theorem jd_42_152__10 : decode jdk_42_method_152_code 10 = .ok (.goto 4, 3) := by decide +kernel
theorem jd_42_152__14 : decode jdk_42_method_152_code 14 = .ok (.ireturn, 1) := by decide +kernel
set_option maxRecDepth 65536 in
set_option maxHeartbeats 40000000 in
theorem rmCo (l : Launch) (Z : State) (a0 : Array Value) (hw : ∀ d ∈ tables_1, d.before a0 Z = true) (a : Addr) (cs : Int32) (h0 : Heap) (hcs : ¬ cs = (0 : Int32)) (Scs : Sta Z h0 "java/lang/String" "COMPACT_STRINGS" "Z" (.int cs)) (F : Fld Z h0 a "java/lang/String" "coder" "B" (.int (0 : Int32))) : Con l Z (⟨"java/lang/String", "coder", "()B"⟩ : MethodName) jdk_42_method_152_code 1 (some .byte) [] ({ frames := 0, cells := 0, slots := 0, locals := 0 } : Room) #[(.ref a)] h0 (fun v h L => v = some (.int (0 : Int32)) ∧ L = [] ∧ h = h0) := by
  refine Con.of (plainFor_of_name pn_java_lang_String) ?_
  intro p e s m below meth c T X hx hby hml hown hnm hret eT hZ hsh Φ fin
  replace hown : s.vm.findClass "java/lang/String" = some m.cls := hown
  replace hml : 1 = c.maxLocals := hml.symm
  refine own_step (fun tq kq => castTop (ef_rmCo m a) kq) ?_
  refine own_getS X hx hby hZ hown (host := "") (Or.inl (own_w hw 21 rfl)) Via.refl eT Scs jd_42_152__0 (pc' := 3) rfl ?_
  intro T1 X1 e1
  refine own_ifN X1 hx hby jd_42_152__3 ((if0 _ _).trans (feq hcs).1) (pc' := 6) rfl ?_
  refine own_aloadN X1 hx hby jd_42_152__6 rfl rfl (pc' := 7) rfl ?_
  refine own_getF X1 hx hby hZ hown (host := "") (Or.inl (own_w hw 33 rfl)) Via.refl e1 F jd_42_152__7 (pc' := 10) rfl ?_
  intro T2 X2 e2
  refine own_goto X2 hx hby jd_42_152__10 (by decide) (pc' := 14) (by decide) ?_
  exact own_retN X2 hx hby fin hret (by simp) rfl jd_42_152__14 (by decide) (by decide) ⟨rfl, rfl, e2⟩
theorem ef_rmLn (m : MethodId) (x0 : Addr) : entryFrame m #[(.ref x0)] 1 = mkF m 0 #[.val (.ref x0)] [] := by first | (simp [entryFrame, mkF, argsToLocals, Value.category]; done) | rfl
theorem jd_42_54__0 : decode jdk_42_method_54_code 0 = .ok (.aload_n 0, 1) := by decide +kernel
theorem jd_42_54__1 : decode jdk_42_method_54_code 1 = .ok (.getfield 9, 3) := by decide +kernel
theorem jd_42_54__4 : decode jdk_42_method_54_code 4 = .ok (.arraylength, 1) := by decide +kernel
theorem jd_42_54__5 : decode jdk_42_method_54_code 5 = .ok (.aload_n 0, 1) := by decide +kernel
theorem jd_42_54__6 : decode jdk_42_method_54_code 6 = .ok (.invokevirtual 335, 3) := by decide +kernel
theorem pd___B : parseMethodDescriptor "()B" = some ⟨[], some .byte⟩ := by decide +kernel
theorem jd_42_54__9 : decode jdk_42_method_54_code 9 = .ok (.ishr, 1) := by decide +kernel
theorem jd_42_54__10 : decode jdk_42_method_54_code 10 = .ok (.ireturn, 1) := by decide +kernel
set_option maxRecDepth 65536 in
set_option maxHeartbeats 40000000 in
theorem rmLn (l : Launch) (Z : State) (a0 : Array Value) (hw : ∀ d ∈ tables_1, d.before a0 Z = true) (a b : Addr) (cs n : Int32) (vs : List Value) (h0 : Heap) (hcs : ¬ cs = (0 : Int32)) (Scs : Sta Z h0 "java/lang/String" "COMPACT_STRINGS" "Z" (.int cs))(E : Exa Z h0 a "java/lang/String") (F : Fld Z h0 a "java/lang/String" "coder" "B" (.int (0 : Int32))) (G : Fld Z h0 a "java/lang/String" "value" "[B" (.ref b)) (V : AV Z h0 b .byte vs) (hn : Int32.ofNat vs.length = n) : Con l Z (⟨"java/lang/String", "length", "()I"⟩ : MethodName) jdk_42_method_54_code 1 (some .int) [] ({ frames := 1, cells := 0, slots := 0, locals := 14 } : Room) #[(.ref a)] h0 (fun v h L => v = some (.int n) ∧ L = [] ∧ h = h0) := by
  refine Con.of (plainFor_of_name pn_java_lang_String) ?_
  intro p e s m below meth c T X hx hby hml hown hnm hret eT hZ hsh Φ fin
  replace hown : s.vm.findClass "java/lang/String" = some m.cls := hown
  replace hml : 1 = c.maxLocals := hml.symm
  refine own_step (fun tq kq => castTop (ef_rmLn m a) kq) ?_
  refine own_aloadN X hx hby jd_42_54__0 rfl rfl (pc' := 1) rfl ?_
  refine own_getF X hx hby hZ hown (host := "") (Or.inl (own_w hw 35 rfl)) Via.refl eT G jd_42_54__1 (pc' := 4) rfl ?_
  intro T1 X1 e1
  refine own_alen X1 hx hby hZ e1 (n := n) V hn jd_42_54__4 (pc' := 5) rfl ?_
  refine own_aloadN X1 hx hby jd_42_54__5 rfl rfl (pc' := 6) rfl ?_
  refine own_callV X1 hx hby hZ (by exact hml) hown (own_w hw 100 rfl) (own_w hw 101 rfl) (own_w hw 103 rfl) (own_w hw 102 rfl) (own_w hw 6 rfl) (own_w hw 104 rfl) (by decide) e1 1 (by decide) (by decide) (by decide) (by decide) (argsL := []) (rest := [(.int n)]) (lenOf pd___B rfl) rfl (Nat.le_of_eq rfl) E (rmCo l Z a0 hw a cs h0 hcs Scs F) jd_42_54__6 (pc' := 9) rfl ?_
  intro v2 T2 L2 X2 hQ2
  obtain ⟨rfl, rfl, e2⟩ := hQ2
  rw [List.append_nil] at X2
  replace e2 : T2.heap = h0 := e2
  show GoP p e below Φ (T2.setTop (mkF m 9 #[.val (.ref a)] [(.int (0 : Int32)), (.int n)]))
  refine own_ishr X2 hx hby jd_42_54__9 (pc' := 10) rfl ?_
  exact own_retI X2 hx hby fin hret jd_42_54__10 (by decide) (by decide) ⟨by rw [own_shr0], rfl, e2⟩
theorem ef_rmEn (m : MethodId) (x0 : Addr) (x1 : Int32) : entryFrame m #[(.ref x0), (.int x1)] 3 = mkF m 0 #[.val (.ref x0), .val (.int x1), .unset] [] := by first | (simp [entryFrame, mkF, argsToLocals, Value.category]; done) | rfl
theorem pn_java_lang_AbstractStringBuilder : plainName "java/lang/AbstractStringBuilder" = true := by first | (simp [plainName, overriddenIn]; done) | decide +kernel
theorem jd_68_9__0 : decode jdk_68_method_9_code 0 = .ok (.aload_n 0, 1) := by decide +kernel
theorem jd_68_9__1 : decode jdk_68_method_9_code 1 = .ok (.getfield 15, 3) := by decide +kernel
theorem jd_68_9__4 : decode jdk_68_method_9_code 4 = .ok (.arraylength, 1) := by decide +kernel
theorem jd_68_9__5 : decode jdk_68_method_9_code 5 = .ok (.aload_n 0, 1) := by decide +kernel
theorem jd_68_9__6 : decode jdk_68_method_9_code 6 = .ok (.getfield 22, 3) := by decide +kernel
theorem jd_68_9__9 : decode jdk_68_method_9_code 9 = .ok (.ishr, 1) := by decide +kernel
theorem jd_68_9__10 : decode jdk_68_method_9_code 10 = .ok (.istore_n 2, 1) := by decide +kernel
theorem jd_68_9__11 : decode jdk_68_method_9_code 11 = .ok (.iload_n 1, 1) := by decide +kernel
theorem jd_68_9__12 : decode jdk_68_method_9_code 12 = .ok (.iload_n 2, 1) := by decide +kernel
theorem jd_68_9__13 : decode jdk_68_method_9_code 13 = .ok (.isub, 1) := by decide +kernel
theorem jd_68_9__14 : decode jdk_68_method_9_code 14 = .ok (.ifCond .le 24, 3) := by decide +kernel
theorem jd_68_9__38 : decode jdk_68_method_9_code 38 = .ok (.return_, 1) := by decide +kernel
set_option maxRecDepth 65536 in
set_option maxHeartbeats 40000000 in
theorem rmEn (l : Launch) (Z : State) (a0 : Array Value) (hw : ∀ d ∈ tables_1, d.before a0 Z = true) (a ab : Addr) (mm : Int32) (xs : List Value) (h0 : Heap) (Fv : Fld Z h0 a "java/lang/AbstractStringBuilder" "value" "[B" (.ref ab)) (Fc : Fld Z h0 a "java/lang/AbstractStringBuilder" "coder" "B" (.int (0 : Int32))) (Vb : AV Z h0 ab .byte xs) (hx16 : Int32.ofNat xs.length = (16 : Int32)) (hm : ¬ (0 : Int32) < (mm - (16 : Int32))) : Con l Z (⟨"java/lang/AbstractStringBuilder", "ensureCapacityInternal", "(I)V"⟩ : MethodName) jdk_68_method_9_code 3 none [] ({ frames := 0, cells := 0, slots := 0, locals := 0 } : Room) #[(.ref a), (.int mm)] h0 (fun v h L => v = none ∧ L = [] ∧ h = h0) := by
  refine Con.of (plainFor_of_name pn_java_lang_AbstractStringBuilder) ?_
  intro p e s m below meth c T X hx hby hml hown hnm hret eT hZ hsh Φ fin
  replace hown : s.vm.findClass "java/lang/AbstractStringBuilder" = some m.cls := hown
  replace hml : 3 = c.maxLocals := hml.symm
  refine own_step (fun tq kq => castTop (ef_rmEn m a mm) kq) ?_
  refine own_aloadN X hx hby jd_68_9__0 rfl rfl (pc' := 1) rfl ?_
  refine own_getF X hx hby hZ hown (host := "") (Or.inl (own_w hw 81 rfl)) Via.refl eT Fv jd_68_9__1 (pc' := 4) rfl ?_
  intro T1 X1 e1
  refine own_alen X1 hx hby hZ e1 (n := (16 : Int32)) Vb hx16 jd_68_9__4 (pc' := 5) rfl ?_
  refine own_aloadN X1 hx hby jd_68_9__5 rfl rfl (pc' := 6) rfl ?_
  refine own_getF X1 hx hby hZ hown (host := "") (Or.inl (own_w hw 83 rfl)) Via.refl e1 Fc jd_68_9__6 (pc' := 9) rfl ?_
  intro T2 X2 e2
  refine own_ishr X2 hx hby jd_68_9__9 (pc' := 10) rfl ?_
  show GoP p e below Φ (T2.setTop (mkF m 10 #[.val (.ref a), .val (.int mm), .unset] [(.int (16 : Int32))]))
  refine own_istoreN X2 hx hby jd_68_9__10  (Ls' := #[.val (.ref a), .val (.int mm), .val (.int (16 : Int32))]) rfl (pc' := 11) rfl ?_
  refine own_iloadN X2 hx hby jd_68_9__11 rfl (pc' := 12) rfl ?_
  refine own_iloadN X2 hx hby jd_68_9__12 rfl (pc' := 13) rfl ?_
  refine own_isub X2 hx hby jd_68_9__13 (pc' := 14) rfl ?_
  refine own_ifY X2 hx hby jd_68_9__14 ((if0 _ _).trans (flt hm).2.2.2) (by decide) (pc' := 38) (by decide) ?_
  exact own_ret0 X2 hx hby fin hret jd_68_9__38 (by decide) (by decide) ⟨rfl, rfl, e2⟩
theorem ef_rmIn (m : MethodId) (x0 : Addr) (x1 : Addr) : entryFrame m #[(.ref x0), (.ref x1)] 2 = mkF m 0 #[.val (.ref x0), .val (.ref x1)] [] := by first | (simp [entryFrame, mkF, argsToLocals, Value.category]; done) | rfl
theorem jd_68_71__0 : decode jdk_68_method_71_code 0 = .ok (.getstatic 18, 3) := by decide +kernel
theorem jd_68_71__3 : decode jdk_68_method_71_code 3 = .ok (.ifCond .eq 18, 3) := by decide +kernel
theorem jd_68_71__6 : decode jdk_68_method_71_code 6 = .ok (.aload_n 0, 1) := by decide +kernel
theorem jd_68_71__7 : decode jdk_68_method_71_code 7 = .ok (.getfield 22, 3) := by decide +kernel
theorem jd_68_71__10 : decode jdk_68_method_71_code 10 = .ok (.aload_n 1, 1) := by decide +kernel
theorem jd_68_71__11 : decode jdk_68_method_71_code 11 = .ok (.invokevirtual 40, 3) := by decide +kernel
theorem jd_68_71__14 : decode jdk_68_method_71_code 14 = .ok (.if_icmp .eq 7, 3) := by decide +kernel
theorem jd_68_71__21 : decode jdk_68_method_71_code 21 = .ok (.return_, 1) := by decide +kernel
set_option maxRecDepth 65536 in
set_option maxHeartbeats 40000000 in
theorem rmIn (l : Launch) (Z : State) (a0 : Array Value) (hw : ∀ d ∈ tables_1, d.before a0 Z = true) (a sa : Addr) (cs : Int32) (h0 : Heap) (hcs : ¬ cs = (0 : Int32)) (Scs : Sta Z h0 "java/lang/String" "COMPACT_STRINGS" "Z" (.int cs))(Fc : Fld Z h0 a "java/lang/AbstractStringBuilder" "coder" "B" (.int (0 : Int32))) (E : Exa Z h0 sa "java/lang/String") (F : Fld Z h0 sa "java/lang/String" "coder" "B" (.int (0 : Int32))) : Con l Z (⟨"java/lang/AbstractStringBuilder", "inflateIfNeededFor", "(Ljava/lang/String;)V"⟩ : MethodName) jdk_68_method_71_code 2 none [] ({ frames := 1, cells := 0, slots := 0, locals := 14 } : Room) #[(.ref a), (.ref sa)] h0 (fun v h L => v = none ∧ L = [] ∧ h = h0) := by
  refine Con.of (plainFor_of_name pn_java_lang_AbstractStringBuilder) ?_
  intro p e s m below meth c T X hx hby hml hown hnm hret eT hZ hsh Φ fin
  replace hown : s.vm.findClass "java/lang/AbstractStringBuilder" = some m.cls := hown
  replace hml : 2 = c.maxLocals := hml.symm
  refine own_step (fun tq kq => castTop (ef_rmIn m a sa) kq) ?_
  refine own_getS X hx hby hZ hown (host := "") (Or.inl (own_w hw 80 rfl)) Via.refl eT Scs jd_68_71__0 (pc' := 3) rfl ?_
  intro T1 X1 e1
  refine own_ifN X1 hx hby jd_68_71__3 ((if0 _ _).trans (feq hcs).1) (pc' := 6) rfl ?_
  refine own_aloadN X1 hx hby jd_68_71__6 rfl rfl (pc' := 7) rfl ?_
  refine own_getF X1 hx hby hZ hown (host := "") (Or.inl (own_w hw 83 rfl)) Via.refl e1 Fc jd_68_71__7 (pc' := 10) rfl ?_
  intro T2 X2 e2
  refine own_aloadN X2 hx hby jd_68_71__10 rfl rfl (pc' := 11) rfl ?_
  refine own_callV X2 hx hby hZ (by exact hml) hown (own_w hw 122 rfl) (own_w hw 101 rfl) (own_w hw 103 rfl) (own_w hw 102 rfl) (own_w hw 6 rfl) (own_w hw 104 rfl) (by decide) e2 1 (by decide) (by decide) (by decide) (by decide) (argsL := []) (rest := [(.int (0 : Int32))]) (lenOf pd___B rfl) rfl (Nat.le_of_eq rfl) E (rmCo l Z a0 hw sa cs h0 hcs Scs F) jd_68_71__11 (pc' := 14) rfl ?_
  intro v3 T3 L3 X3 hQ3
  obtain ⟨rfl, rfl, e3⟩ := hQ3
  rw [List.append_nil] at X3
  replace e3 : T3.heap = h0 := e3
  show GoP p e below Φ (T3.setTop (mkF m 14 #[.val (.ref a), .val (.ref sa)] [(.int (0 : Int32)), (.int (0 : Int32))]))
  refine own_icmpY X3 hx hby jd_68_71__14 (teq (by decide)).1 (by decide) (pc' := 21) (by decide) ?_
  exact own_ret0 X3 hx hby fin hret jd_68_71__21 (by decide) (by decide) ⟨rfl, rfl, e3⟩
theorem ef_rmGB (m : MethodId) (x0 : Addr) (x1 : Addr) (x2 : Int32) (x3 : Int32) : entryFrame m #[(.ref x0), (.ref x1), (.int x2), (.int x3)] 4 = mkF m 0 #[.val (.ref x0), .val (.ref x1), .val (.int x2), .val (.int x3)] [] := by first | (simp [entryFrame, mkF, argsToLocals, Value.category]; done) | rfl
theorem jd_42_147__0 : decode jdk_42_method_147_code 0 = .ok (.aload_n 0, 1) := by decide +kernel
theorem jd_42_147__1 : decode jdk_42_method_147_code 1 = .ok (.invokevirtual 335, 3) := by decide +kernel
theorem jd_42_147__4 : decode jdk_42_method_147_code 4 = .ok (.iload_n 3, 1) := by decide +kernel
theorem jd_42_147__5 : decode jdk_42_method_147_code 5 = .ok (.if_icmp .ne 23, 3) := by decide +kernel
theorem jd_42_147__8 : decode jdk_42_method_147_code 8 = .ok (.aload_n 0, 1) := by decide +kernel
theorem jd_42_147__9 : decode jdk_42_method_147_code 9 = .ok (.getfield 9, 3) := by decide +kernel
theorem jd_42_147__12 : decode jdk_42_method_147_code 12 = .ok (.iconst 0, 1) := by decide +kernel
theorem jd_42_147__13 : decode jdk_42_method_147_code 13 = .ok (.aload_n 1, 1) := by decide +kernel
theorem jd_42_147__14 : decode jdk_42_method_147_code 14 = .ok (.iload_n 2, 1) := by decide +kernel
theorem jd_42_147__15 : decode jdk_42_method_147_code 15 = .ok (.iload_n 3, 1) := by decide +kernel
theorem jd_42_147__16 : decode jdk_42_method_147_code 16 = .ok (.ishl, 1) := by decide +kernel
theorem jd_42_147__17 : decode jdk_42_method_147_code 17 = .ok (.aload_n 0, 1) := by decide +kernel
theorem jd_42_147__18 : decode jdk_42_method_147_code 18 = .ok (.getfield 9, 3) := by decide +kernel
theorem jd_42_147__21 : decode jdk_42_method_147_code 21 = .ok (.arraylength, 1) := by decide +kernel
theorem jd_42_147__22 : decode jdk_42_method_147_code 22 = .ok (.invokestatic 212, 3) := by decide +kernel
theorem jd_42_147__25 : decode jdk_42_method_147_code 25 = .ok (.goto 18, 3) := by decide +kernel
theorem jd_42_147__43 : decode jdk_42_method_147_code 43 = .ok (.return_, 1) := by decide +kernel
set_option maxRecDepth 65536 in
set_option maxHeartbeats 40000000 in
theorem rmGB (l : Launch) (Z : State) (a0 : Array Value) (hw : ∀ d ∈ tables_1, d.before a0 Z = true) (sa sb ab : Addr) (cs k n : Int32) (ys xs : List Value) (n0 : Nat) (h0 : Heap) (hcs : ¬ cs = (0 : Int32)) (Scs : Sta Z h0 "java/lang/String" "COMPACT_STRINGS" "Z" (.int cs))(n0_ab : n0 ≤ ab) (E : Exa Z h0 sa "java/lang/String") (F : Fld Z h0 sa "java/lang/String" "coder" "B" (.int (0 : Int32))) (G : Fld Z h0 sa "java/lang/String" "value" "[B" (.ref sb)) (V : AV Z h0 sb .byte ys) (Vb : AV Z h0 ab .byte xs) (hn : Int32.ofNat ys.length = n) (q1 : ys.all (fits .byte) = true) (q2 : xs.all (fits .byte) = true) (b1 : ¬ k < 0) (b2 : ¬ n < 0) (b3 : (0 : Int32).toNatClampNeg + n.toNatClampNeg ≤ ys.length) (b4 : k.toNatClampNeg + n.toNatClampNeg ≤ xs.length) : Con l Z (⟨"java/lang/String", "getBytes", "([BIB)V"⟩ : MethodName) jdk_42_method_147_code 4 none [] ({ frames := 1, cells := 0, slots := 0, locals := 40 } : Room) #[(.ref sa), (.ref ab), (.int k), (.int (0 : Int32))] h0 (fun v h L => v = none ∧ Fr n0 L ∧ Keep h0 h [ab] ∧ AV Z h ab .byte (own_put xs ys k n)) := by
  refine Con.of (plainFor_of_name pn_java_lang_String) ?_
  intro p e s m below meth c T X hx hby hml hown hnm hret eT hZ hsh Φ fin
  replace hown : s.vm.findClass "java/lang/String" = some m.cls := hown
  replace hml : 4 = c.maxLocals := hml.symm
  refine own_step (fun tq kq => castTop (ef_rmGB m sa ab k (0 : Int32)) kq) ?_
  have N0 := Fr.nil n0
  have K0 : Keep h0 h0 [ab] := Keep.refl h0 [ab]
  refine own_aloadN X hx hby jd_42_147__0 rfl rfl (pc' := 1) rfl ?_
  refine own_callV X hx hby hZ (by exact hml) hown (own_w hw 100 rfl) (own_w hw 101 rfl) (own_w hw 103 rfl) (own_w hw 102 rfl) (own_w hw 6 rfl) (own_w hw 104 rfl) (by decide) eT 0 (by decide) (by decide) (by decide) (by decide) (argsL := []) (rest := []) (lenOf pd___B rfl) rfl (Nat.le_of_eq rfl) E (rmCo l Z a0 hw sa cs h0 hcs Scs F) jd_42_147__1 (pc' := 4) rfl ?_
  intro v1 T1 L1 X1 hQ1
  obtain ⟨rfl, rfl, e1⟩ := hQ1
  rw [List.append_nil] at X1
  replace e1 : T1.heap = h0 := e1
  show GoP p e below Φ (T1.setTop (mkF m 4 #[.val (.ref sa), .val (.ref ab), .val (.int k), .val (.int (0 : Int32))] [(.int (0 : Int32))]))
  refine own_iloadN X1 hx hby jd_42_147__4 rfl (pc' := 5) rfl ?_
  refine own_icmpN X1 hx hby jd_42_147__5 (teq (by decide)).2 (pc' := 8) rfl ?_
  refine own_aloadN X1 hx hby jd_42_147__8 rfl rfl (pc' := 9) rfl ?_
  refine own_getF X1 hx hby hZ hown (host := "") (Or.inl (own_w hw 35 rfl)) Via.refl e1 G jd_42_147__9 (pc' := 12) rfl ?_
  intro T2 X2 e2
  refine own_iconst X2 hx hby jd_42_147__12 (v := (0 : Int32)) rfl (pc' := 13) rfl ?_
  refine own_aloadN X2 hx hby jd_42_147__13 rfl rfl (pc' := 14) rfl ?_
  refine own_iloadN X2 hx hby jd_42_147__14 rfl (pc' := 15) rfl ?_
  refine own_iloadN X2 hx hby jd_42_147__15 rfl (pc' := 16) rfl ?_
  refine own_ishl X2 hx hby jd_42_147__16 (pc' := 17) rfl ?_
  rw [own_shl0]
  show GoP p e below Φ (T2.setTop (mkF m 17 #[.val (.ref sa), .val (.ref ab), .val (.int k), .val (.int (0 : Int32))] [(.int k), (.ref ab), (.int (0 : Int32)), (.ref sb)]))
  refine own_aloadN X2 hx hby jd_42_147__17 rfl rfl (pc' := 18) rfl ?_
  refine own_getF X2 hx hby hZ hown (host := "") (Or.inl (own_w hw 35 rfl)) Via.refl e2 G jd_42_147__18 (pc' := 21) rfl ?_
  intro T3 X3 e3
  refine own_alen X3 hx hby hZ e3 (n := n) V hn jd_42_147__21 (pc' := 22) rfl ?_
  refine own_copyV X3 hx hby (dv := .int 0) hZ (by exact hml) hown (own_w hw 128 rfl) (own_w hw 131 rfl) (own_w hw 129 rfl) (own_w hw 130 rfl) e3 V Vb q1 q2 rfl (by decide) b1 b2 b3 b4 N0 n0_ab (by decide) 0 (Nat.le_of_eq rfl) (by decide) jd_42_147__22 (pc' := 25) rfl ?_
  intro T4 h4 L4 X4 e4 Nn4 K4 V4
  replace V4 : AV Z h4 ab .byte (own_put xs ys k n) := V4
  have KC4 : Keep h0 h4 [ab] := K0.trans K4 (allS (Or.inl (List.mem_of_getElem? (i := 0) rfl)) all0)
  refine own_goto X4 hx hby jd_42_147__25 (by decide) (pc' := 43) (by decide) ?_
  exact own_ret0 X4 hx hby fin hret jd_42_147__43 (by decide) (by decide) (by rw [e4]; exact ⟨rfl, Nn4, KC4, V4⟩)
theorem ef_rmPS (m : MethodId) (x0 : Addr) (x1 : Int32) (x2 : Addr) : entryFrame m #[(.ref x0), (.int x1), (.ref x2)] 3 = mkF m 0 #[.val (.ref x0), .val (.int x1), .val (.ref x2)] [] := by first | (simp [entryFrame, mkF, argsToLocals, Value.category]; done) | rfl
theorem jd_68_73__0 : decode jdk_68_method_73_code 0 = .ok (.aload_n 0, 1) := by decide +kernel
theorem jd_68_73__1 : decode jdk_68_method_73_code 1 = .ok (.aload_n 2, 1) := by decide +kernel
theorem jd_68_73__2 : decode jdk_68_method_73_code 2 = .ok (.invokevirtual 397, 3) := by decide +kernel
theorem pd__Ljava_lang_String__V : parseMethodDescriptor "(Ljava/lang/String;)V" = some ⟨[(.object "java/lang/String")], none⟩ := by decide +kernel
theorem jd_68_73__5 : decode jdk_68_method_73_code 5 = .ok (.aload_n 2, 1) := by decide +kernel
theorem jd_68_73__6 : decode jdk_68_method_73_code 6 = .ok (.aload_n 0, 1) := by decide +kernel
theorem jd_68_73__7 : decode jdk_68_method_73_code 7 = .ok (.getfield 15, 3) := by decide +kernel
theorem jd_68_73__10 : decode jdk_68_method_73_code 10 = .ok (.iload_n 1, 1) := by decide +kernel
theorem jd_68_73__11 : decode jdk_68_method_73_code 11 = .ok (.aload_n 0, 1) := by decide +kernel
theorem jd_68_73__12 : decode jdk_68_method_73_code 12 = .ok (.getfield 22, 3) := by decide +kernel
theorem jd_68_73__15 : decode jdk_68_method_73_code 15 = .ok (.invokevirtual 399, 3) := by decide +kernel
theorem pd___BIB_V : parseMethodDescriptor "([BIB)V" = some ⟨[(.array .byte), .int, .byte], none⟩ := by decide +kernel
theorem jd_68_73__18 : decode jdk_68_method_73_code 18 = .ok (.return_, 1) := by decide +kernel
set_option maxRecDepth 65536 in
set_option maxHeartbeats 40000000 in
theorem rmPS (l : Launch) (Z : State) (a0 : Array Value) (hw : ∀ d ∈ tables_1, d.before a0 Z = true) (a ab sa sb : Addr) (cs k n : Int32) (ys xs : List Value) (n0 : Nat) (h0 : Heap) (hcs : ¬ cs = (0 : Int32)) (Scs : Sta Z h0 "java/lang/String" "COMPACT_STRINGS" "Z" (.int cs))(n0_ab : n0 ≤ ab) (Eb : Exa Z h0 a "java/lang/StringBuilder") (Fv : Fld Z h0 a "java/lang/AbstractStringBuilder" "value" "[B" (.ref ab)) (Fc : Fld Z h0 a "java/lang/AbstractStringBuilder" "coder" "B" (.int (0 : Int32))) (Fn : Fld Z h0 a "java/lang/AbstractStringBuilder" "count" "I" (.int k)) (Vb : AV Z h0 ab .byte xs)(E : Exa Z h0 sa "java/lang/String") (F : Fld Z h0 sa "java/lang/String" "coder" "B" (.int (0 : Int32))) (G : Fld Z h0 sa "java/lang/String" "value" "[B" (.ref sb)) (V : AV Z h0 sb .byte ys)(hn : Int32.ofNat ys.length = n) (q1 : ys.all (fits .byte) = true) (q2 : xs.all (fits .byte) = true) (b1 : ¬ k < 0) (b2 : ¬ n < 0) (b3 : (0 : Int32).toNatClampNeg + n.toNatClampNeg ≤ ys.length) (b4 : k.toNatClampNeg + n.toNatClampNeg ≤ xs.length) : Con l Z (⟨"java/lang/AbstractStringBuilder", "putStringAt", "(ILjava/lang/String;)V"⟩ : MethodName) jdk_68_method_73_code 3 none [] ({ frames := 2, cells := 0, slots := 0, locals := 60 } : Room) #[(.ref a), (.int k), (.ref sa)] h0 (fun v h L => v = none ∧ Fr n0 L ∧ Keep h0 h [ab] ∧ AV Z h ab .byte (own_put xs ys k n)) := by
  refine Con.of (plainFor_of_name pn_java_lang_AbstractStringBuilder) ?_
  intro p e s m below meth c T X hx hby hml hown hnm hret eT hZ hsh Φ fin
  replace hown : s.vm.findClass "java/lang/AbstractStringBuilder" = some m.cls := hown
  replace hml : 3 = c.maxLocals := hml.symm
  refine own_step (fun tq kq => castTop (ef_rmPS m a k sa) kq) ?_
  have N0 := Fr.nil n0
  have K0 : Keep h0 h0 [ab] := Keep.refl h0 [ab]
  refine own_aloadN X hx hby jd_68_73__0 rfl rfl (pc' := 1) rfl ?_
  refine own_aloadN X hx hby jd_68_73__1 rfl rfl (pc' := 2) rfl ?_
  refine own_callV X hx hby hZ (by exact hml) hown (own_w hw 117 rfl) (own_declares (own_w hw 118 rfl) (own_w hw 121 rfl)) (own_w hw 120 rfl) (own_w hw 118 rfl) (own_w hw 77 rfl) (own_w hw 121 rfl) (by decide) eT 0 (by decide) (by decide) (by decide) (by decide) (argsL := [(.ref sa)]) (rest := []) (lenOf pd__Ljava_lang_String__V rfl) rfl (Nat.le_of_eq rfl) Eb (rmIn l Z a0 hw a sa cs h0 hcs Scs Fc E F) jd_68_73__2 (pc' := 5) rfl ?_
  intro v1 T1 L1 X1 hQ1
  obtain ⟨rfl, rfl, e1⟩ := hQ1
  rw [List.append_nil] at X1
  replace e1 : T1.heap = h0 := e1
  show GoP p e below Φ (T1.setTop (mkF m 5 #[.val (.ref a), .val (.int k), .val (.ref sa)] []))
  refine own_aloadN X1 hx hby jd_68_73__5 rfl rfl (pc' := 6) rfl ?_
  refine own_aloadN X1 hx hby jd_68_73__6 rfl rfl (pc' := 7) rfl ?_
  refine own_getF X1 hx hby hZ hown (host := "") (Or.inl (own_w hw 81 rfl)) Via.refl e1 Fv jd_68_73__7 (pc' := 10) rfl ?_
  intro T2 X2 e2
  refine own_iloadN X2 hx hby jd_68_73__10 rfl (pc' := 11) rfl ?_
  refine own_aloadN X2 hx hby jd_68_73__11 rfl rfl (pc' := 12) rfl ?_
  refine own_getF X2 hx hby hZ hown (host := "") (Or.inl (own_w hw 83 rfl)) Via.refl e2 Fc jd_68_73__12 (pc' := 15) rfl ?_
  intro T3 X3 e3
  refine own_callV X3 hx hby hZ (by exact hml) hown (own_w hw 123 rfl) (own_w hw 124 rfl) (own_w hw 126 rfl) (own_w hw 125 rfl) (own_w hw 6 rfl) (own_w hw 127 rfl) (by decide) e3 0 (by decide) (by decide) (by decide) (by decide) (argsL := [(.ref ab), (.int k), (.int (0 : Int32))]) (rest := []) (lenOf pd___BIB_V rfl) rfl (Nat.le_of_eq rfl) E (rmGB l Z a0 hw sa sb ab cs k n ys xs n0 h0 hcs Scs n0_ab E F G V Vb hn q1 q2 b1 b2 b3 b4) jd_68_73__15 (pc' := 18) rfl ?_
  intro v4 T4 L4 X4 hQ4
  obtain ⟨rfl, Nq4, K4, V4⟩ := hQ4
  have N4 := Fr.app N0 Nq4
  have KK4 : Keep h0 T4.heap [ab] := K0.trans K4 (allS (Or.inl (List.mem_of_getElem? (i := 0) rfl)) all0)
  show GoP p e below Φ (T4.setTop (mkF m 18 #[.val (.ref a), .val (.int k), .val (.ref sa)] []))
  exact own_ret0 X4 hx hby fin hret jd_68_73__18 (by decide) (by decide) ⟨rfl, N4, KK4, V4⟩
theorem ef_rmAS (m : MethodId) (x0 : Addr) (x1 : Addr) : entryFrame m #[(.ref x0), (.ref x1)] 3 = mkF m 0 #[.val (.ref x0), .val (.ref x1), .unset] [] := by first | (simp [entryFrame, mkF, argsToLocals, Value.category]; done) | rfl
theorem jd_68_22__0 : decode jdk_68_method_22_code 0 = .ok (.aload_n 1, 1) := by decide +kernel
theorem jd_68_22__1 : decode jdk_68_method_22_code 1 = .ok (.ifnonnull 8, 3) := by decide +kernel
theorem jd_68_22__9 : decode jdk_68_method_22_code 9 = .ok (.aload_n 1, 1) := by decide +kernel
theorem jd_68_22__10 : decode jdk_68_method_22_code 10 = .ok (.invokevirtual 32, 3) := by decide +kernel
theorem pd___I : parseMethodDescriptor "()I" = some ⟨[], some .int⟩ := by decide +kernel
theorem jd_68_22__13 : decode jdk_68_method_22_code 13 = .ok (.istore_n 2, 1) := by decide +kernel
theorem jd_68_22__14 : decode jdk_68_method_22_code 14 = .ok (.aload_n 0, 1) := by decide +kernel
theorem jd_68_22__15 : decode jdk_68_method_22_code 15 = .ok (.aload_n 0, 1) := by decide +kernel
theorem jd_68_22__16 : decode jdk_68_method_22_code 16 = .ok (.getfield 79, 3) := by decide +kernel
theorem jd_68_22__19 : decode jdk_68_method_22_code 19 = .ok (.iload_n 2, 1) := by decide +kernel
theorem jd_68_22__20 : decode jdk_68_method_22_code 20 = .ok (.iadd, 1) := by decide +kernel
theorem jd_68_22__21 : decode jdk_68_method_22_code 21 = .ok (.invokevirtual 100, 3) := by decide +kernel
theorem pd__I_V : parseMethodDescriptor "(I)V" = some ⟨[.int], none⟩ := by decide +kernel
theorem jd_68_22__24 : decode jdk_68_method_22_code 24 = .ok (.aload_n 0, 1) := by decide +kernel
theorem jd_68_22__25 : decode jdk_68_method_22_code 25 = .ok (.aload_n 0, 1) := by decide +kernel
theorem jd_68_22__26 : decode jdk_68_method_22_code 26 = .ok (.getfield 79, 3) := by decide +kernel
theorem jd_68_22__29 : decode jdk_68_method_22_code 29 = .ok (.aload_n 1, 1) := by decide +kernel
theorem jd_68_22__30 : decode jdk_68_method_22_code 30 = .ok (.invokevirtual 208, 3) := by decide +kernel
theorem pd__ILjava_lang_String__V : parseMethodDescriptor "(ILjava/lang/String;)V" = some ⟨[.int, (.object "java/lang/String")], none⟩ := by decide +kernel
theorem jd_68_22__33 : decode jdk_68_method_22_code 33 = .ok (.aload_n 0, 1) := by decide +kernel
theorem jd_68_22__34 : decode jdk_68_method_22_code 34 = .ok (.dup, 1) := by decide +kernel
theorem jd_68_22__35 : decode jdk_68_method_22_code 35 = .ok (.getfield 79, 3) := by decide +kernel
theorem jd_68_22__38 : decode jdk_68_method_22_code 38 = .ok (.iload_n 2, 1) := by decide +kernel
theorem jd_68_22__39 : decode jdk_68_method_22_code 39 = .ok (.iadd, 1) := by decide +kernel
theorem jd_68_22__40 : decode jdk_68_method_22_code 40 = .ok (.putfield 79, 3) := by decide +kernel
theorem jd_68_22__43 : decode jdk_68_method_22_code 43 = .ok (.aload_n 0, 1) := by decide +kernel
theorem jd_68_22__44 : decode jdk_68_method_22_code 44 = .ok (.areturn, 1) := by decide +kernel
set_option maxRecDepth 65536 in
set_option maxHeartbeats 40000000 in
theorem rmAS (l : Launch) (Z : State) (a0 : Array Value) (hw : ∀ d ∈ tables_1, d.before a0 Z = true) (a ab sa sb : Addr) (cs k n : Int32) (ys xs : List Value) (n0 : Nat) (h0 : Heap) (hcs : ¬ cs = (0 : Int32)) (Scs : Sta Z h0 "java/lang/String" "COMPACT_STRINGS" "Z" (.int cs))(n0_a : n0 ≤ a) (n0_ab : n0 ≤ ab) (ne_a_ab : a ≠ ab) (ne_sa_ab : sa ≠ ab) (ne_sb_ab : sb ≠ ab) (hx16 : Int32.ofNat xs.length = (16 : Int32)) (hm : ¬ (0 : Int32) < ((k + n) - (16 : Int32))) (Eb : Exa Z h0 a "java/lang/StringBuilder") (Fv : Fld Z h0 a "java/lang/AbstractStringBuilder" "value" "[B" (.ref ab)) (Fc : Fld Z h0 a "java/lang/AbstractStringBuilder" "coder" "B" (.int (0 : Int32))) (Fn : Fld Z h0 a "java/lang/AbstractStringBuilder" "count" "I" (.int k)) (Vb : AV Z h0 ab .byte xs)(E : Exa Z h0 sa "java/lang/String") (F : Fld Z h0 sa "java/lang/String" "coder" "B" (.int (0 : Int32))) (G : Fld Z h0 sa "java/lang/String" "value" "[B" (.ref sb)) (V : AV Z h0 sb .byte ys)(hn : Int32.ofNat ys.length = n) (q1 : ys.all (fits .byte) = true) (q2 : xs.all (fits .byte) = true) (b1 : ¬ k < 0) (b2 : ¬ n < 0) (b3 : (0 : Int32).toNatClampNeg + n.toNatClampNeg ≤ ys.length) (b4 : k.toNatClampNeg + n.toNatClampNeg ≤ xs.length) : Con l Z (⟨"java/lang/AbstractStringBuilder", "append", "(Ljava/lang/String;)Ljava/lang/AbstractStringBuilder;"⟩ : MethodName) jdk_68_method_22_code 3 (some (.object "java/lang/AbstractStringBuilder")) [] ({ frames := 3, cells := 0, slots := 0, locals := 80 } : Room) #[(.ref a), (.ref sa)] h0 (fun v h L => v = some (.ref a) ∧ Fr n0 L ∧ Keep h0 h [a, ab] ∧ Exa Z h a "java/lang/StringBuilder" ∧ Fld Z h a "java/lang/AbstractStringBuilder" "value" "[B" (.ref ab) ∧ Fld Z h a "java/lang/AbstractStringBuilder" "coder" "B" (.int (0 : Int32)) ∧ Fld Z h a "java/lang/AbstractStringBuilder" "count" "I" (.int (k + n)) ∧ AV Z h ab .byte (own_put xs ys k n)) := by
  refine Con.of (plainFor_of_name pn_java_lang_AbstractStringBuilder) ?_
  intro p e s m below meth c T X hx hby hml hown hnm hret eT hZ hsh Φ fin
  replace hown : s.vm.findClass "java/lang/AbstractStringBuilder" = some m.cls := hown
  replace hml : 3 = c.maxLocals := hml.symm
  refine own_step (fun tq kq => castTop (ef_rmAS m a sa) kq) ?_
  have N0 := Fr.nil n0
  have K0 : Keep h0 h0 [a, ab] := Keep.refl h0 [a, ab]
  refine own_aloadN X hx hby jd_68_22__0 rfl rfl (pc' := 1) rfl ?_
  refine own_ifnonnullY X hx hby jd_68_22__1 (by decide) (pc' := 9) (by decide) ?_
  refine own_aloadN X hx hby jd_68_22__9 rfl rfl (pc' := 10) rfl ?_
  refine own_callV X hx hby hZ (by exact hml) hown (own_w hw 95 rfl) (own_w hw 96 rfl) (own_w hw 98 rfl) (own_w hw 97 rfl) (own_w hw 6 rfl) (own_w hw 99 rfl) (by decide) eT 0 (by decide) (by decide) (by decide) (by decide) (argsL := []) (rest := []) (lenOf pd___I rfl) rfl (Nat.le_of_eq rfl) E (rmLn l Z a0 hw sa sb cs n ys h0 hcs Scs E F G V hn) jd_68_22__10 (pc' := 13) rfl ?_
  intro v1 T1 L1 X1 hQ1
  obtain ⟨rfl, rfl, e1⟩ := hQ1
  rw [List.append_nil] at X1
  replace e1 : T1.heap = h0 := e1
  show GoP p e below Φ (T1.setTop (mkF m 13 #[.val (.ref a), .val (.ref sa), .unset] [(.int n)]))
  refine own_istoreN X1 hx hby jd_68_22__13  (Ls' := #[.val (.ref a), .val (.ref sa), .val (.int n)]) rfl (pc' := 14) rfl ?_
  refine own_aloadN X1 hx hby jd_68_22__14 rfl rfl (pc' := 15) rfl ?_
  refine own_aloadN X1 hx hby jd_68_22__15 rfl rfl (pc' := 16) rfl ?_
  refine own_getF X1 hx hby hZ hown (host := "") (Or.inl (own_w hw 105 rfl)) Via.refl e1 Fn jd_68_22__16 (pc' := 19) rfl ?_
  intro T2 X2 e2
  refine own_iloadN X2 hx hby jd_68_22__19 rfl (pc' := 20) rfl ?_
  refine own_iadd X2 hx hby jd_68_22__20 (pc' := 21) rfl ?_
  refine own_callV X2 hx hby hZ (by exact hml) hown (own_w hw 107 rfl) (own_declares (own_w hw 108 rfl) (own_w hw 111 rfl)) (own_w hw 110 rfl) (own_w hw 108 rfl) (own_w hw 77 rfl) (own_w hw 111 rfl) (by decide) e2 0 (by decide) (by decide) (by decide) (by decide) (argsL := [(.int (k + n))]) (rest := []) (lenOf pd__I_V rfl) rfl (Nat.le_of_eq rfl) Eb (rmEn l Z a0 hw a ab (k + n) xs h0 Fv Fc Vb hx16 hm) jd_68_22__21 (pc' := 24) rfl ?_
  intro v3 T3 L3 X3 hQ3
  obtain ⟨rfl, rfl, e3⟩ := hQ3
  rw [List.append_nil] at X3
  replace e3 : T3.heap = h0 := e3
  show GoP p e below Φ (T3.setTop (mkF m 24 #[.val (.ref a), .val (.ref sa), .val (.int n)] []))
  refine own_aloadN X3 hx hby jd_68_22__24 rfl rfl (pc' := 25) rfl ?_
  refine own_aloadN X3 hx hby jd_68_22__25 rfl rfl (pc' := 26) rfl ?_
  refine own_getF X3 hx hby hZ hown (host := "") (Or.inl (own_w hw 105 rfl)) Via.refl e3 Fn jd_68_22__26 (pc' := 29) rfl ?_
  intro T4 X4 e4
  refine own_aloadN X4 hx hby jd_68_22__29 rfl rfl (pc' := 30) rfl ?_
  refine own_callV X4 hx hby hZ (by exact hml) hown (own_w hw 112 rfl) (own_declares (own_w hw 113 rfl) (own_w hw 116 rfl)) (own_w hw 115 rfl) (own_w hw 113 rfl) (own_w hw 77 rfl) (own_w hw 116 rfl) (by decide) e4 0 (by decide) (by decide) (by decide) (by decide) (argsL := [(.int k), (.ref sa)]) (rest := []) (lenOf pd__ILjava_lang_String__V rfl) rfl (Nat.le_of_eq rfl) Eb (rmPS l Z a0 hw a ab sa sb cs k n ys xs n0 h0 hcs Scs n0_ab Eb Fv Fc Fn Vb E F G V hn q1 q2 b1 b2 b3 b4) jd_68_22__30 (pc' := 33) rfl ?_
  intro v5 T5 L5 X5 hQ5
  obtain ⟨rfl, Nq5, K5, V5⟩ := hQ5
  have E6_a := Eb.keep K5
  have F7_value := Fv.keep K5 (ninS ne_a_ab nin0)
  have F8_coder := Fc.keep K5 (ninS ne_a_ab nin0)
  have F9_count := Fn.keep K5 (ninS ne_a_ab nin0)
  have N5 := Fr.app N0 Nq5
  have KK5 : Keep h0 T5.heap [a, ab] := K0.trans K5 (allS (Or.inl (List.mem_of_getElem? (i := 1) rfl)) all0)
  show GoP p e below Φ (T5.setTop (mkF m 33 #[.val (.ref a), .val (.ref sa), .val (.int n)] []))
  refine own_aloadN X5 hx hby jd_68_22__33 rfl rfl (pc' := 34) rfl ?_
  refine own_dup X5 hx hby jd_68_22__34 rfl (pc' := 35) rfl ?_
  refine own_getF X5 hx hby hZ hown (host := "") (Or.inl (own_w hw 105 rfl)) Via.refl rfl F9_count jd_68_22__35 (pc' := 38) rfl ?_
  intro T10 X10 e10
  refine own_iloadN X10 hx hby jd_68_22__38 rfl (pc' := 39) rfl ?_
  refine own_iadd X10 hx hby jd_68_22__39 (pc' := 40) rfl ?_
  refine own_putF X10 hx hby hZ hown (host := "") (Or.inl (own_w hw 105 rfl)) Via.refl e10 F9_count E6_a (Or.inl (own_w hw 106 rfl)) (own_w hw 68 rfl) (ty := .int) (by decide) rfl rfl jd_68_22__40 (pc' := 43) rfl ?_
  intro T11 h11 X11 e11 W11
  have E12_a := E6_a.wr W11
  have F13_value := F7_value.other W11 (Or.inr (slot_ne (Or.inl (own_w hw 82 rfl)) (Or.inl (own_w hw 106 rfl)) (by decide) (t := (.array .byte)) (t' := .int) (by decide) (by decide)))
  have F14_coder := F8_coder.other W11 (Or.inr (slot_ne (Or.inl (own_w hw 84 rfl)) (Or.inl (own_w hw 106 rfl)) (by decide) (t := .byte) (t' := .int) (by decide) (by decide)))
  have F15_count := F9_count.same W11
  have V16_ab := V5.other W11 (Ne.symm ne_a_ab)
  have N11 := Fr.snoc X11 N5 n0_a
  have K11 : Keep h0 h11 [a, ab] := KK5.wr W11 (Or.inl (List.mem_of_getElem? (i := 0) rfl))
  refine own_aloadN X11 hx hby jd_68_22__43 rfl rfl (pc' := 44) rfl ?_
  exact own_retA X11 hx hby fin hret rfl rfl rfl jd_68_22__44 (by decide) (by decide) (by rw [e11]; exact ⟨rfl, N11, K11, E12_a, F13_value, F14_coder, F15_count, V16_ab⟩)
theorem ef_rmAp (m : MethodId) (x0 : Addr) (x1 : Addr) : entryFrame m #[(.ref x0), (.ref x1)] 2 = mkF m 0 #[.val (.ref x0), .val (.ref x1)] [] := by first | (simp [entryFrame, mkF, argsToLocals, Value.category]; done) | rfl
theorem pn_java_lang_StringBuilder : plainName "java/lang/StringBuilder" = true := by first | (simp [plainName, overriddenIn]; done) | decide +kernel
theorem jd_67_7__0 : decode jdk_67_method_7_code 0 = .ok (.aload_n 0, 1) := by decide +kernel
theorem jd_67_7__1 : decode jdk_67_method_7_code 1 = .ok (.aload_n 1, 1) := by decide +kernel
theorem jd_67_7__2 : decode jdk_67_method_7_code 2 = .ok (.invokespecial 29, 3) := by decide +kernel
theorem pd__Ljava_lang_String__Ljava_lang_AbstractStringBuilder_ : parseMethodDescriptor "(Ljava/lang/String;)Ljava/lang/AbstractStringBuilder;" = some ⟨[(.object "java/lang/String")], some (.object "java/lang/AbstractStringBuilder")⟩ := by decide +kernel
theorem jd_67_7__5 : decode jdk_67_method_7_code 5 = .ok (.pop, 1) := by decide +kernel
theorem jd_67_7__6 : decode jdk_67_method_7_code 6 = .ok (.aload_n 0, 1) := by decide +kernel
theorem jd_67_7__7 : decode jdk_67_method_7_code 7 = .ok (.areturn, 1) := by decide +kernel
set_option maxRecDepth 65536 in
set_option maxHeartbeats 40000000 in
theorem rmAp (l : Launch) (Z : State) (a0 : Array Value) (hw : ∀ d ∈ tables_1, d.before a0 Z = true) (a ab sa sb : Addr) (cs k n : Int32) (ys xs : List Value) (n0 : Nat) (h0 : Heap) (hcs : ¬ cs = (0 : Int32)) (Scs : Sta Z h0 "java/lang/String" "COMPACT_STRINGS" "Z" (.int cs))(n0_a : n0 ≤ a) (n0_ab : n0 ≤ ab) (ne_a_ab : a ≠ ab) (ne_sa_ab : sa ≠ ab) (ne_sb_ab : sb ≠ ab) (hx16 : Int32.ofNat xs.length = (16 : Int32)) (hm : ¬ (0 : Int32) < ((k + n) - (16 : Int32))) (Eb : Exa Z h0 a "java/lang/StringBuilder") (Fv : Fld Z h0 a "java/lang/AbstractStringBuilder" "value" "[B" (.ref ab)) (Fc : Fld Z h0 a "java/lang/AbstractStringBuilder" "coder" "B" (.int (0 : Int32))) (Fn : Fld Z h0 a "java/lang/AbstractStringBuilder" "count" "I" (.int k)) (Vb : AV Z h0 ab .byte xs)(E : Exa Z h0 sa "java/lang/String") (F : Fld Z h0 sa "java/lang/String" "coder" "B" (.int (0 : Int32))) (G : Fld Z h0 sa "java/lang/String" "value" "[B" (.ref sb)) (V : AV Z h0 sb .byte ys)(hn : Int32.ofNat ys.length = n) (q1 : ys.all (fits .byte) = true) (q2 : xs.all (fits .byte) = true) (b1 : ¬ k < 0) (b2 : ¬ n < 0) (b3 : (0 : Int32).toNatClampNeg + n.toNatClampNeg ≤ ys.length) (b4 : k.toNatClampNeg + n.toNatClampNeg ≤ xs.length) : Con l Z (⟨"java/lang/StringBuilder", "append", "(Ljava/lang/String;)Ljava/lang/StringBuilder;"⟩ : MethodName) jdk_67_method_7_code 2 (some (.object "java/lang/StringBuilder")) [] ({ frames := 4, cells := 0, slots := 0, locals := 100 } : Room) #[(.ref a), (.ref sa)] h0 (fun v h L => v = some (.ref a) ∧ Fr n0 L ∧ Keep h0 h [a, ab] ∧ Exa Z h a "java/lang/StringBuilder" ∧ Fld Z h a "java/lang/AbstractStringBuilder" "value" "[B" (.ref ab) ∧ Fld Z h a "java/lang/AbstractStringBuilder" "coder" "B" (.int (0 : Int32)) ∧ Fld Z h a "java/lang/AbstractStringBuilder" "count" "I" (.int (k + n)) ∧ AV Z h ab .byte (own_put xs ys k n)) := by
  refine Con.of (plainFor_of_name pn_java_lang_StringBuilder) ?_
  intro p e s m below meth c T X hx hby hml hown hnm hret eT hZ hsh Φ fin
  replace hown : s.vm.findClass "java/lang/StringBuilder" = some m.cls := hown
  replace hml : 2 = c.maxLocals := hml.symm
  refine own_step (fun tq kq => castTop (ef_rmAp m a sa) kq) ?_
  have N0 := Fr.nil n0
  have K0 : Keep h0 h0 [a, ab] := Keep.refl h0 [a, ab]
  refine own_aloadN X hx hby jd_67_7__0 rfl rfl (pc' := 1) rfl ?_
  refine own_aloadN X hx hby jd_67_7__1 rfl rfl (pc' := 2) rfl ?_
  refine own_callSup X hx hby hZ (by exact hml) hown (by decide) (own_w hw 90 rfl) (own_same (z := ({ cls := "java/lang/AbstractStringBuilder", name := "ensureCapacityInternal", desc := "(I)V" } : Jvm.MethodName)) (own_w hw 91 rfl) rfl (own_w hw 110 rfl) (by decide)) (own_w hw 91 rfl) (own_w hw 92 rfl) (own_w hw 77 rfl) (own_w hw 94 rfl)  eT 0 (by decide) (by decide) (by decide) (by decide) (argsL := [(.ref sa)]) (rest := []) (lenOf pd__Ljava_lang_String__Ljava_lang_AbstractStringBuilder_ rfl) rfl (Nat.le_of_eq rfl) Eb (rmAS l Z a0 hw a ab sa sb cs k n ys xs n0 h0 hcs Scs n0_a n0_ab ne_a_ab ne_sa_ab ne_sb_ab hx16 hm Eb Fv Fc Fn Vb E F G V hn q1 q2 b1 b2 b3 b4) jd_67_7__2 (pc' := 5) rfl ?_
  intro v1 T1 L1 X1 hQ1
  obtain ⟨rfl, Nq1, K1, Eb1, Fv1, Fc1, Fn1, Vb1⟩ := hQ1
  have N1 := Fr.app N0 Nq1
  have KK1 : Keep h0 T1.heap [a, ab] := K0.trans K1 (allS (Or.inl (List.mem_of_getElem? (i := 0) rfl)) (allS (Or.inl (List.mem_of_getElem? (i := 1) rfl)) all0))
  show GoP p e below Φ (T1.setTop (mkF m 5 #[.val (.ref a), .val (.ref sa)] [(.ref a)]))
  refine own_pop X1 hx hby jd_67_7__5 rfl (pc' := 6) rfl ?_
  refine own_aloadN X1 hx hby jd_67_7__6 rfl rfl (pc' := 7) rfl ?_
  exact own_retA X1 hx hby fin hret rfl rfl rfl jd_67_7__7 (by decide) (by decide) (by exact ⟨rfl, N1, KK1, Eb1, Fv1, Fc1, Fn1, Vb1⟩)
theorem ef_rmB1 (m : MethodId) (x0 : Addr) (x1 : Int32) : entryFrame m #[(.ref x0), (.int x1)] 2 = mkF m 0 #[.val (.ref x0), .val (.int x1)] [] := by first | (simp [entryFrame, mkF, argsToLocals, Value.category]; done) | rfl
theorem jd_68_2__0 : decode jdk_68_method_2_code 0 = .ok (.aload_n 0, 1) := by decide +kernel
theorem jd_68_2__1 : decode jdk_68_method_2_code 1 = .ok (.invokespecial 3, 3) := by decide +kernel
theorem jd_68_2__4 : decode jdk_68_method_2_code 4 = .ok (.getstatic 18, 3) := by decide +kernel
theorem jd_68_2__7 : decode jdk_68_method_2_code 7 = .ok (.ifCond .eq 18, 3) := by decide +kernel
theorem jd_68_2__10 : decode jdk_68_method_2_code 10 = .ok (.aload_n 0, 1) := by decide +kernel
theorem jd_68_2__11 : decode jdk_68_method_2_code 11 = .ok (.iload_n 1, 1) := by decide +kernel
theorem jd_68_2__12 : decode jdk_68_method_2_code 12 = .ok (.newarray .byte, 2) := by decide +kernel
theorem jd_68_2__14 : decode jdk_68_method_2_code 14 = .ok (.putfield 15, 3) := by decide +kernel
theorem jd_68_2__17 : decode jdk_68_method_2_code 17 = .ok (.aload_n 0, 1) := by decide +kernel
theorem jd_68_2__18 : decode jdk_68_method_2_code 18 = .ok (.iconst 0, 1) := by decide +kernel
theorem jd_68_2__19 : decode jdk_68_method_2_code 19 = .ok (.putfield 22, 3) := by decide +kernel
theorem jd_68_2__22 : decode jdk_68_method_2_code 22 = .ok (.goto 16, 3) := by decide +kernel
theorem jd_68_2__38 : decode jdk_68_method_2_code 38 = .ok (.return_, 1) := by decide +kernel
set_option maxRecDepth 65536 in
set_option maxHeartbeats 40000000 in
theorem rmB1 (l : Launch) (Z : State) (a0 : Array Value) (hw : ∀ d ∈ tables_1, d.before a0 Z = true) (a : Addr) (cs : Int32) (n0 : Nat) (h0 : Heap) (hcs : ¬ cs = (0 : Int32)) (Scs : Sta Z h0 "java/lang/String" "COMPACT_STRINGS" "Z" (.int cs))(n0_a : n0 ≤ a) (Z0 : n0 ≤ h0.size) (E : Exa Z h0 a "java/lang/StringBuilder") (Fv : Fld Z h0 a "java/lang/AbstractStringBuilder" "value" "[B" .null) (Fc : Fld Z h0 a "java/lang/AbstractStringBuilder" "coder" "B" (.int (0 : Int32))) (Fn : Fld Z h0 a "java/lang/AbstractStringBuilder" "count" "I" (.int (0 : Int32))) : Con l Z (⟨"java/lang/AbstractStringBuilder", "<init>", "(I)V"⟩ : MethodName) jdk_68_method_2_code 2 none [] ({ frames := 1, cells := 1, slots := 16, locals := 14 } : Room) #[(.ref a), (.int (16 : Int32))] h0 (fun v h L => v = none ∧ Fr n0 L ∧ Keep h0 h [a] ∧ ∃ ab : Addr, h0.size ≤ ab ∧ Exa Z h a "java/lang/StringBuilder" ∧ Fld Z h a "java/lang/AbstractStringBuilder" "value" "[B" (.ref ab) ∧ Fld Z h a "java/lang/AbstractStringBuilder" "coder" "B" (.int (0 : Int32)) ∧ Fld Z h a "java/lang/AbstractStringBuilder" "count" "I" (.int (0 : Int32)) ∧ AV Z h ab .byte own_z16) := by
  refine Con.of (plainFor_of_name pn_java_lang_AbstractStringBuilder) ?_
  intro p e s m below meth c T X hx hby hml hown hnm hret eT hZ hsh Φ fin
  replace hown : s.vm.findClass "java/lang/AbstractStringBuilder" = some m.cls := hown
  replace hml : 2 = c.maxLocals := hml.symm
  refine own_step (fun tq kq => castTop (ef_rmB1 m a (16 : Int32)) kq) ?_
  have N0 := Fr.nil n0
  have K0 : Keep h0 h0 [a] := Keep.refl h0 [a]
  refine own_aloadN X hx hby jd_68_2__0 rfl rfl (pc' := 1) rfl ?_
  obtain ⟨T1, X1, e1, st1⟩ := initO X hx hZ hown (own_w hw 79 rfl) (own_w hw 19 rfl) (own_w hw 20 rfl) eT (g := (mkF m 1 #[.val (.ref a), .val (.int (16 : Int32))] [(.ref a)])) rfl hml rfl (hb hby jd_68_2__1) (by decide) (W := 0) (by show 2 * 0 + _ ≤ _; exact Nat.le_of_eq rfl) (by decide)
  refine own_step st1 ?_
  show GoP p e below Φ (T1.setTop (mkF m 4 #[.val (.ref a), .val (.int (16 : Int32))] []))
  refine own_getS X1 hx hby hZ hown (host := "") (Or.inl (own_w hw 80 rfl)) Via.refl e1 Scs jd_68_2__4 (pc' := 7) rfl ?_
  intro T2 X2 e2
  refine own_ifN X2 hx hby jd_68_2__7 ((if0 _ _).trans (feq hcs).1) (pc' := 10) rfl ?_
  refine own_aloadN X2 hx hby jd_68_2__10 rfl rfl (pc' := 11) rfl ?_
  refine own_iloadN X2 hx hby jd_68_2__11 rfl (pc' := 12) rfl ?_
  obtain ⟨T3, h3, k3, X3, e3, E3, A3, st3⟩ := newP X2 hx hZ (own_w hw 26 rfl) e2 (g := (mkF m 12 #[.val (.ref a), .val (.int (16 : Int32))] [(.int (16 : Int32)), (.ref a)])) rfl (hb hby jd_68_2__12) rfl (by decide) (cap := 16) (by decide) (by decide) (by decide) (by decide)
  obtain ⟨b3, g3⟩ : ∃ z, z = h0.size := ⟨_, rfl⟩
  have ne_a_b3 : a ≠ b3 := Nat.ne_of_lt (g3 ▸ E.lt)
  have S4_COMPACT_STRINGS := Scs.ext E3
  have E5_a := E.ext E3
  have F6_value := Fv.ext E3
  have F7_coder := Fc.ext E3
  have F8_count := Fn.ext E3
  have Z3 : n0 ≤ h3.size := Nat.le_trans Z0 E3.1
  have n0_b3 : n0 ≤ b3 := g3 ▸ Z0
  have sz_b3 : h0.size ≤ b3 := g3 ▸ K0.1
  have K3 : Keep h0 h3 [a] := K0.ext E3
  rw [← g3] at A3 st3
  refine own_step st3 ?_
  have V3 : AV Z h3 b3 .byte [(.int (0 : Int32)), (.int (0 : Int32)), (.int (0 : Int32)), (.int (0 : Int32)), (.int (0 : Int32)), (.int (0 : Int32)), (.int (0 : Int32)), (.int (0 : Int32)), (.int (0 : Int32)), (.int (0 : Int32)), (.int (0 : Int32)), (.int (0 : Int32)), (.int (0 : Int32)), (.int (0 : Int32)), (.int (0 : Int32)), (.int (0 : Int32))] := AV.new A3 (by decide)
  show GoP p e below Φ (T3.setTop (mkF m 14 #[.val (.ref a), .val (.int (16 : Int32))] [(.ref b3), (.ref a)]))
  refine own_putF X3 hx hby hZ hown (host := "") (Or.inl (own_w hw 81 rfl)) Via.refl e3 F6_value E5_a (Or.inl (own_w hw 82 rfl)) (own_w hw 68 rfl) (ty := (.array .byte)) (by decide) rfl rfl jd_68_2__14 (pc' := 17) rfl ?_
  intro T9 h9 X9 e9 W9
  have S10_COMPACT_STRINGS := S4_COMPACT_STRINGS.wr W9
  have E11_a := E5_a.wr W9
  have F12_value := F6_value.same W9
  have F13_coder := F7_coder.other W9 (Or.inr (slot_ne (Or.inl (own_w hw 84 rfl)) (Or.inl (own_w hw 82 rfl)) (by decide) (t := .byte) (t' := (.array .byte)) (by decide) (by decide)))
  have F14_count := F8_count.other W9 (Or.inr (slot_ne (Or.inl (own_w hw 106 rfl)) (Or.inl (own_w hw 82 rfl)) (by decide) (t := .int) (t' := (.array .byte)) (by decide) (by decide)))
  have V15_b3 := V3.other W9 (Ne.symm ne_a_b3)
  have Z9 : n0 ≤ h9.size := by rw [W9.size]; exact Z3
  have N9 := Fr.snoc X9 N0 n0_a
  have K9 : Keep h0 h9 [a] := K3.wr W9 (Or.inl (List.mem_of_getElem? (i := 0) rfl))
  refine own_aloadN X9 hx hby jd_68_2__17 rfl rfl (pc' := 18) rfl ?_
  refine own_iconst X9 hx hby jd_68_2__18 (v := (0 : Int32)) rfl (pc' := 19) rfl ?_
  obtain ⟨T16, h16, X16, e16, W16, st16⟩ := putFN X9 hx hZ hown (own_w hw 83 rfl) Via.refl e9 F13_coder E11_a (Or.inl (own_w hw 84 rfl)) (own_w hw 68 rfl) (ty := .byte) (v' := (.int (0 : Int32))) (by decide) rfl (by decide) (g := (mkF m 19 #[.val (.ref a), .val (.int (16 : Int32))] [(.int (0 : Int32)), (.ref a)])) rfl rfl (hb hby jd_68_2__19)
  refine own_step st16 ?_
  have S17_COMPACT_STRINGS := S10_COMPACT_STRINGS.wr W16
  have E18_a := E11_a.wr W16
  have F19_value := F12_value.other W16 (Or.inr (slot_ne (Or.inl (own_w hw 82 rfl)) (Or.inl (own_w hw 84 rfl)) (by decide) (t := (.array .byte)) (t' := .byte) (by decide) (by decide)))
  have F20_coder := F13_coder.same W16
  have F21_count := F14_count.other W16 (Or.inr (slot_ne (Or.inl (own_w hw 106 rfl)) (Or.inl (own_w hw 84 rfl)) (by decide) (t := .int) (t' := .byte) (by decide) (by decide)))
  have V22_b3 := V15_b3.other W16 (Ne.symm ne_a_b3)
  have Z16 : n0 ≤ h16.size := by rw [W16.size]; exact Z9
  have N16 := Fr.snoc X16 N9 n0_a
  have K16 : Keep h0 h16 [a] := K9.wr W16 (Or.inl (List.mem_of_getElem? (i := 0) rfl))
  show GoP p e below Φ (T16.setTop (mkF m 22 #[.val (.ref a), .val (.int (16 : Int32))] []))
  refine own_goto X16 hx hby jd_68_2__22 (by decide) (pc' := 38) (by decide) ?_
  exact own_ret0 X16 hx hby fin hret jd_68_2__38 (by decide) (by decide) (by rw [e16]; exact ⟨rfl, N16, K16, b3, sz_b3, E18_a, F19_value, F20_coder, F21_count, V22_b3⟩)
theorem ef_rmB0 (m : MethodId) (x0 : Addr) : entryFrame m #[(.ref x0)] 1 = mkF m 0 #[.val (.ref x0)] [] := by first | (simp [entryFrame, mkF, argsToLocals, Value.category]; done) | rfl
theorem jd_67_1__0 : decode jdk_67_method_1_code 0 = .ok (.aload_n 0, 1) := by decide +kernel
theorem jd_67_1__1 : decode jdk_67_method_1_code 1 = .ok (.bipush 16, 2) := by decide +kernel
theorem jd_67_1__3 : decode jdk_67_method_1_code 3 = .ok (.invokespecial 1, 3) := by decide +kernel
theorem jd_67_1__6 : decode jdk_67_method_1_code 6 = .ok (.return_, 1) := by decide +kernel
set_option maxRecDepth 65536 in
set_option maxHeartbeats 40000000 in
theorem rmB0 (l : Launch) (Z : State) (a0 : Array Value) (hw : ∀ d ∈ tables_1, d.before a0 Z = true) (a : Addr) (cs : Int32) (n0 : Nat) (h0 : Heap) (hcs : ¬ cs = (0 : Int32)) (Scs : Sta Z h0 "java/lang/String" "COMPACT_STRINGS" "Z" (.int cs))(n0_a : n0 ≤ a) (Z0 : n0 ≤ h0.size) (E : Exa Z h0 a "java/lang/StringBuilder") (Fv : Fld Z h0 a "java/lang/AbstractStringBuilder" "value" "[B" .null) (Fc : Fld Z h0 a "java/lang/AbstractStringBuilder" "coder" "B" (.int (0 : Int32))) (Fn : Fld Z h0 a "java/lang/AbstractStringBuilder" "count" "I" (.int (0 : Int32))) : Con l Z (⟨"java/lang/StringBuilder", "<init>", "()V"⟩ : MethodName) jdk_67_method_1_code 1 none [] ({ frames := 2, cells := 1, slots := 16, locals := 30 } : Room) #[(.ref a)] h0 (fun v h L => v = none ∧ Fr n0 L ∧ Keep h0 h [a] ∧ ∃ ab : Addr, h0.size ≤ ab ∧ Exa Z h a "java/lang/StringBuilder" ∧ Fld Z h a "java/lang/AbstractStringBuilder" "value" "[B" (.ref ab) ∧ Fld Z h a "java/lang/AbstractStringBuilder" "coder" "B" (.int (0 : Int32)) ∧ Fld Z h a "java/lang/AbstractStringBuilder" "count" "I" (.int (0 : Int32)) ∧ AV Z h ab .byte own_z16) := by
  refine Con.of (plainFor_of_name pn_java_lang_StringBuilder) ?_
  intro p e s m below meth c T X hx hby hml hown hnm hret eT hZ hsh Φ fin
  replace hown : s.vm.findClass "java/lang/StringBuilder" = some m.cls := hown
  replace hml : 1 = c.maxLocals := hml.symm
  refine own_step (fun tq kq => castTop (ef_rmB0 m a) kq) ?_
  have N0 := Fr.nil n0
  have K0 : Keep h0 h0 [a] := Keep.refl h0 [a]
  refine own_aloadN X hx hby jd_67_1__0 rfl rfl (pc' := 1) rfl ?_
  refine own_bipush X hx hby jd_67_1__1 (v := (16 : Int32)) rfl (pc' := 3) rfl ?_
  refine own_callI X hx hby hZ (by exact hml) hown rfl (own_w hw 73 rfl) (own_w hw 74 rfl) (own_w hw 77 rfl) (own_w hw 78 rfl) (by decide) eT 0 (by decide) (by decide) (by decide) (by decide) (argsL := [(.int (16 : Int32))]) (rest := []) (lenOf pd__I_V rfl) rfl (Nat.le_of_eq rfl) (rmB1 l Z a0 hw a cs n0 h0 hcs Scs n0_a Z0 E Fv Fc Fn) jd_67_1__3 (pc' := 6) rfl ?_
  intro v1 T1 L1 X1 hQ1
  obtain ⟨rfl, Nq1, K1, ab, sb1, Eb1, Fv1, Fc1, Fn1, Vb1⟩ := hQ1
  have ne_a_ab : a ≠ ab := Nat.ne_of_lt (Nat.lt_of_lt_of_le E.lt sb1)
  have n0_ab : n0 ≤ ab := Nat.le_trans Z0 sb1
  have sz_ab : h0.size ≤ ab := Nat.le_trans K0.1 sb1
  have S2_COMPACT_STRINGS := own_stakeep Scs K1 (allS (own_plainE E) all0)
  have N1 := Fr.app N0 Nq1
  have Z1 : n0 ≤ T1.heap.size := Nat.le_trans Z0 K1.1
  have KK1 : Keep h0 T1.heap [a] := K0.trans K1 (allS (Or.inl (List.mem_of_getElem? (i := 0) rfl)) all0)
  show GoP p e below Φ (T1.setTop (mkF m 6 #[.val (.ref a)] []))
  exact own_ret0 X1 hx hby fin hret jd_67_1__6 (by decide) (by decide) ⟨rfl, N1, KK1, ab, sz_ab, Eb1, Fv1, Fc1, Fn1, Vb1⟩
theorem ef_rmGV (m : MethodId) (x0 : Addr) : entryFrame m #[(.ref x0)] 1 = mkF m 0 #[.val (.ref x0)] [] := by first | (simp [entryFrame, mkF, argsToLocals, Value.category]; done) | rfl
theorem jd_68_64__0 : decode jdk_68_method_64_code 0 = .ok (.aload_n 0, 1) := by decide +kernel
theorem jd_68_64__1 : decode jdk_68_method_64_code 1 = .ok (.getfield 15, 3) := by decide +kernel
theorem jd_68_64__4 : decode jdk_68_method_64_code 4 = .ok (.areturn, 1) := by decide +kernel
set_option maxRecDepth 65536 in
set_option maxHeartbeats 40000000 in
theorem rmGV (l : Launch) (Z : State) (a0 : Array Value) (hw : ∀ d ∈ tables_1, d.before a0 Z = true) (a ab : Addr) (h0 : Heap) (Fv : Fld Z h0 a "java/lang/AbstractStringBuilder" "value" "[B" (.ref ab)) : Con l Z (⟨"java/lang/AbstractStringBuilder", "getValue", "()[B"⟩ : MethodName) jdk_68_method_64_code 1 (some (.array .byte)) [] ({ frames := 0, cells := 0, slots := 0, locals := 0 } : Room) #[(.ref a)] h0 (fun v h L => v = some (.ref ab) ∧ L = [] ∧ h = h0) := by
  refine Con.of (plainFor_of_name pn_java_lang_AbstractStringBuilder) ?_
  intro p e s m below meth c T X hx hby hml hown hnm hret eT hZ hsh Φ fin
  replace hown : s.vm.findClass "java/lang/AbstractStringBuilder" = some m.cls := hown
  replace hml : 1 = c.maxLocals := hml.symm
  refine own_step (fun tq kq => castTop (ef_rmGV m a) kq) ?_
  refine own_aloadN X hx hby jd_68_64__0 rfl rfl (pc' := 1) rfl ?_
  refine own_getF X hx hby hZ hown (host := "") (Or.inl (own_w hw 81 rfl)) Via.refl eT Fv jd_68_64__1 (pc' := 4) rfl ?_
  intro T1 X1 e1
  exact own_retA X1 hx hby fin hret rfl rfl rfl jd_68_64__4 (by decide) (by decide) ⟨rfl, rfl, e1⟩
theorem ef_rmLA (m : MethodId) (x0 : Addr) : entryFrame m #[(.ref x0)] 1 = mkF m 0 #[.val (.ref x0)] [] := by first | (simp [entryFrame, mkF, argsToLocals, Value.category]; done) | rfl
theorem jd_68_6__0 : decode jdk_68_method_6_code 0 = .ok (.aload_n 0, 1) := by decide +kernel
theorem jd_68_6__1 : decode jdk_68_method_6_code 1 = .ok (.getfield 79, 3) := by decide +kernel
theorem jd_68_6__4 : decode jdk_68_method_6_code 4 = .ok (.ireturn, 1) := by decide +kernel
set_option maxRecDepth 65536 in
set_option maxHeartbeats 40000000 in
theorem rmLA (l : Launch) (Z : State) (a0 : Array Value) (hw : ∀ d ∈ tables_1, d.before a0 Z = true) (a : Addr) (k : Int32) (h0 : Heap) (Fn : Fld Z h0 a "java/lang/AbstractStringBuilder" "count" "I" (.int k)) : Con l Z (⟨"java/lang/AbstractStringBuilder", "length", "()I"⟩ : MethodName) jdk_68_method_6_code 1 (some .int) [] ({ frames := 0, cells := 0, slots := 0, locals := 0 } : Room) #[(.ref a)] h0 (fun v h L => v = some (.int k) ∧ L = [] ∧ h = h0) := by
  refine Con.of (plainFor_of_name pn_java_lang_AbstractStringBuilder) ?_
  intro p e s m below meth c T X hx hby hml hown hnm hret eT hZ hsh Φ fin
  replace hown : s.vm.findClass "java/lang/AbstractStringBuilder" = some m.cls := hown
  replace hml : 1 = c.maxLocals := hml.symm
  refine own_step (fun tq kq => castTop (ef_rmLA m a) kq) ?_
  refine own_aloadN X hx hby jd_68_6__0 rfl rfl (pc' := 1) rfl ?_
  refine own_getF X hx hby hZ hown (host := "") (Or.inl (own_w hw 105 rfl)) Via.refl eT Fn jd_68_6__1 (pc' := 4) rfl ?_
  intro T1 X1 e1
  exact own_retI X1 hx hby fin hret jd_68_6__4 (by decide) (by decide) ⟨rfl, rfl, e1⟩
theorem ef_rmLB (m : MethodId) (x0 : Addr) : entryFrame m #[(.ref x0)] 1 = mkF m 0 #[.val (.ref x0)] [] := by first | (simp [entryFrame, mkF, argsToLocals, Value.category]; done) | rfl
theorem jd_67_93__0 : decode jdk_67_method_93_code 0 = .ok (.aload_n 0, 1) := by decide +kernel
theorem jd_67_93__1 : decode jdk_67_method_93_code 1 = .ok (.invokespecial 343, 3) := by decide +kernel
theorem jd_67_93__4 : decode jdk_67_method_93_code 4 = .ok (.ireturn, 1) := by decide +kernel
set_option maxRecDepth 65536 in
set_option maxHeartbeats 40000000 in
theorem rmLB (l : Launch) (Z : State) (a0 : Array Value) (hw : ∀ d ∈ tables_1, d.before a0 Z = true) (a : Addr) (k : Int32) (h0 : Heap) (E : Exa Z h0 a "java/lang/StringBuilder") (Fn : Fld Z h0 a "java/lang/AbstractStringBuilder" "count" "I" (.int k)) : Con l Z (⟨"java/lang/StringBuilder", "length", "()I"⟩ : MethodName) jdk_67_method_93_code 1 (some .int) [] ({ frames := 1, cells := 0, slots := 0, locals := 14 } : Room) #[(.ref a)] h0 (fun v h L => v = some (.int k) ∧ L = [] ∧ h = h0) := by
  refine Con.of (plainFor_of_name pn_java_lang_StringBuilder) ?_
  intro p e s m below meth c T X hx hby hml hown hnm hret eT hZ hsh Φ fin
  replace hown : s.vm.findClass "java/lang/StringBuilder" = some m.cls := hown
  replace hml : 1 = c.maxLocals := hml.symm
  refine own_step (fun tq kq => castTop (ef_rmLB m a) kq) ?_
  refine own_aloadN X hx hby jd_67_93__0 rfl rfl (pc' := 1) rfl ?_
  refine own_callSup X hx hby hZ (by exact hml) hown (by decide) (own_w hw 156 rfl) (own_same (z := ({ cls := "java/lang/AbstractStringBuilder", name := "ensureCapacityInternal", desc := "(I)V" } : Jvm.MethodName)) (own_w hw 152 rfl) rfl (own_w hw 110 rfl) (by decide)) (own_w hw 152 rfl) (own_w hw 92 rfl) (own_w hw 77 rfl) (own_w hw 157 rfl)  eT 0 (by decide) (by decide) (by decide) (by decide) (argsL := []) (rest := []) (lenOf pd___I rfl) rfl (Nat.le_of_eq rfl) E (rmLA l Z a0 hw a k h0 Fn) jd_67_93__1 (pc' := 4) rfl ?_
  intro v1 T1 L1 X1 hQ1
  obtain ⟨rfl, rfl, e1⟩ := hQ1
  rw [List.append_nil] at X1
  replace e1 : T1.heap = h0 := e1
  show GoP p e below Φ (T1.setTop (mkF m 4 #[.val (.ref a)] [(.int k)]))
  exact own_retI X1 hx hby fin hret jd_67_93__4 (by decide) (by decide) ⟨rfl, rfl, e1⟩
theorem ef_rmL1 (m : MethodId) (x0 : Addr) : entryFrame m #[(.ref x0)] 1 = mkF m 0 #[.val (.ref x0)] [] := by first | (simp [entryFrame, mkF, argsToLocals, Value.category]; done) | rfl
theorem jd_68_68__0 : decode jdk_68_method_68_code 0 = .ok (.getstatic 18, 3) := by decide +kernel
theorem jd_68_68__3 : decode jdk_68_method_68_code 3 = .ok (.ifCond .eq 14, 3) := by decide +kernel
theorem jd_68_68__6 : decode jdk_68_method_68_code 6 = .ok (.aload_n 0, 1) := by decide +kernel
theorem jd_68_68__7 : decode jdk_68_method_68_code 7 = .ok (.getfield 22, 3) := by decide +kernel
theorem jd_68_68__10 : decode jdk_68_method_68_code 10 = .ok (.ifCond .ne 7, 3) := by decide +kernel
theorem jd_68_68__13 : decode jdk_68_method_68_code 13 = .ok (.iconst 1, 1) := by decide +kernel
theorem jd_68_68__14 : decode jdk_68_method_68_code 14 = .ok (.goto 4, 3) := by decide +kernel
theorem jd_68_68__18 : decode jdk_68_method_68_code 18 = .ok (.ireturn, 1) := by decide +kernel
set_option maxRecDepth 65536 in
set_option maxHeartbeats 40000000 in
theorem rmL1 (l : Launch) (Z : State) (a0 : Array Value) (hw : ∀ d ∈ tables_1, d.before a0 Z = true) (a : Addr) (cs : Int32) (h0 : Heap) (hcs : ¬ cs = (0 : Int32)) (Scs : Sta Z h0 "java/lang/String" "COMPACT_STRINGS" "Z" (.int cs))(Fc : Fld Z h0 a "java/lang/AbstractStringBuilder" "coder" "B" (.int (0 : Int32))) : Con l Z (⟨"java/lang/AbstractStringBuilder", "isLatin1", "()Z"⟩ : MethodName) jdk_68_method_68_code 1 (some .boolean) [] ({ frames := 0, cells := 0, slots := 0, locals := 0 } : Room) #[(.ref a)] h0 (fun v h L => v = some (.int (1 : Int32)) ∧ L = [] ∧ h = h0) := by
  refine Con.of (plainFor_of_name pn_java_lang_AbstractStringBuilder) ?_
  intro p e s m below meth c T X hx hby hml hown hnm hret eT hZ hsh Φ fin
  replace hown : s.vm.findClass "java/lang/AbstractStringBuilder" = some m.cls := hown
  replace hml : 1 = c.maxLocals := hml.symm
  refine own_step (fun tq kq => castTop (ef_rmL1 m a) kq) ?_
  refine own_getS X hx hby hZ hown (host := "") (Or.inl (own_w hw 80 rfl)) Via.refl eT Scs jd_68_68__0 (pc' := 3) rfl ?_
  intro T1 X1 e1
  refine own_ifN X1 hx hby jd_68_68__3 ((if0 _ _).trans (feq hcs).1) (pc' := 6) rfl ?_
  refine own_aloadN X1 hx hby jd_68_68__6 rfl rfl (pc' := 7) rfl ?_
  refine own_getF X1 hx hby hZ hown (host := "") (Or.inl (own_w hw 83 rfl)) Via.refl e1 Fc jd_68_68__7 (pc' := 10) rfl ?_
  intro T2 X2 e2
  refine own_ifN X2 hx hby jd_68_68__10 ((if0 _ _).trans (teq (by decide)).2) (pc' := 13) rfl ?_
  refine own_iconst X2 hx hby jd_68_68__13 (v := (1 : Int32)) rfl (pc' := 14) rfl ?_
  refine own_goto X2 hx hby jd_68_68__14 (by decide) (pc' := 18) (by decide) ?_
  exact own_retN X2 hx hby fin hret (by simp) rfl jd_68_68__18 (by decide) (by decide) ⟨rfl, rfl, e2⟩
theorem ef_rmCl (m : MethodId) (x0 : Int32) (x1 : Int32) : entryFrame m #[(.int x0), (.int x1)] 2 = mkF m 0 #[.val (.int x0), .val (.int x1)] [] := by first | (simp [entryFrame, mkF, argsToLocals, Value.category]; done) | rfl
theorem pn_java_util_Arrays : plainName "java/util/Arrays" = true := by first | (simp [plainName, overriddenIn]; done) | decide +kernel
theorem jd_65_131__0 : decode jdk_65_method_131_code 0 = .ok (.iload_n 1, 1) := by decide +kernel
theorem jd_65_131__1 : decode jdk_65_method_131_code 1 = .ok (.iload_n 0, 1) := by decide +kernel
theorem jd_65_131__2 : decode jdk_65_method_131_code 2 = .ok (.if_icmp .ge 35, 3) := by decide +kernel
theorem jd_65_131__37 : decode jdk_65_method_131_code 37 = .ok (.return_, 1) := by decide +kernel
set_option maxRecDepth 65536 in
set_option maxHeartbeats 40000000 in
theorem rmCl (l : Launch) (Z : State) (a0 : Array Value) (hw : ∀ d ∈ tables_1, d.before a0 Z = true) (k : Int32) (h0 : Heap) (hk0 : ¬ k < (0 : Int32)) : Con l Z (⟨"java/util/Arrays", "checkLength", "(II)V"⟩ : MethodName) jdk_65_method_131_code 2 none [] ({ frames := 0, cells := 0, slots := 0, locals := 0 } : Room) #[(.int (0 : Int32)), (.int k)] h0 (fun v h L => v = none ∧ L = [] ∧ h = h0) := by
  refine Con.of (plainFor_of_name pn_java_util_Arrays) ?_
  intro p e s m below meth c T X hx hby hml hown hnm hret eT hZ hsh Φ fin
  replace hown : s.vm.findClass "java/util/Arrays" = some m.cls := hown
  replace hml : 2 = c.maxLocals := hml.symm
  refine own_step (fun tq kq => castTop (ef_rmCl m (0 : Int32) k) kq) ?_
  refine own_iloadN X hx hby jd_65_131__0 rfl (pc' := 1) rfl ?_
  refine own_iloadN X hx hby jd_65_131__1 rfl (pc' := 2) rfl ?_
  refine own_icmpY X hx hby jd_65_131__2 (flt hk0).2.1 (by decide) (pc' := 37) (by decide) ?_
  exact own_ret0 X hx hby fin hret jd_65_131__37 (by decide) (by decide) ⟨rfl, rfl, eT⟩
theorem ef_rmMn (m : MethodId) (x0 : Int32) (x1 : Int32) : entryFrame m #[(.int x0), (.int x1)] 2 = mkF m 0 #[.val (.int x0), .val (.int x1)] [] := by first | (simp [entryFrame, mkF, argsToLocals, Value.category]; done) | rfl
theorem jd_29_69__0 : decode jdk_29_method_69_code 0 = .ok (.iload_n 0, 1) := by decide +kernel
theorem jd_29_69__1 : decode jdk_29_method_69_code 1 = .ok (.iload_n 1, 1) := by decide +kernel
theorem jd_29_69__2 : decode jdk_29_method_69_code 2 = .ok (.if_icmp .gt 7, 3) := by decide +kernel
theorem jd_29_69__9 : decode jdk_29_method_69_code 9 = .ok (.iload_n 1, 1) := by decide +kernel
theorem jd_29_69__10 : decode jdk_29_method_69_code 10 = .ok (.ireturn, 1) := by decide +kernel
set_option maxRecDepth 65536 in
set_option maxHeartbeats 40000000 in
theorem rmMn (l : Launch) (Z : State) (a0 : Array Value) (hw : ∀ d ∈ tables_1, d.before a0 Z = true) (k : Int32) (h0 : Heap) (hk1 : k < (16 : Int32)) : Con l Z (⟨"java/lang/Math", "min", "(II)I"⟩ : MethodName) jdk_29_method_69_code 2 (some .int) [] ({ frames := 0, cells := 0, slots := 0, locals := 0 } : Room) #[(.int (16 : Int32)), (.int k)] h0 (fun v h L => v = some (.int k) ∧ L = [] ∧ h = h0) := by
  refine Con.of (by decide +kernel) ?_
  intro p e s m below meth c T X hx hby hml hown hnm hret eT hZ hsh Φ fin
  replace hown : s.vm.findClass "java/lang/Math" = some m.cls := hown
  replace hml : 2 = c.maxLocals := hml.symm
  refine own_step (fun tq kq => castTop (ef_rmMn m (16 : Int32) k) kq) ?_
  refine own_iloadN X hx hby jd_29_69__0 rfl (pc' := 1) rfl ?_
  refine own_iloadN X hx hby jd_29_69__1 rfl (pc' := 2) rfl ?_
  refine own_icmpY X hx hby jd_29_69__2 (tlt hk1).2.2.1 (by decide) (pc' := 9) (by decide) ?_
  refine own_iloadN X hx hby jd_29_69__9 rfl (pc' := 10) rfl ?_
  exact own_retI X hx hby fin hret jd_29_69__10 (by decide) (by decide) ⟨rfl, rfl, eT⟩
theorem ef_rmCB (m : MethodId) (x0 : Addr) (x1 : Int32) (x2 : Int32) : entryFrame m #[(.ref x0), (.int x1), (.int x2)] 5 = mkF m 0 #[.val (.ref x0), .val (.int x1), .val (.int x2), .unset, .unset] [] := by first | (simp [entryFrame, mkF, argsToLocals, Value.category]; done) | rfl
theorem jd_65_133__0 : decode jdk_65_method_133_code 0 = .ok (.iload_n 1, 1) := by decide +kernel
theorem jd_65_133__1 : decode jdk_65_method_133_code 1 = .ok (.iload_n 2, 1) := by decide +kernel
theorem jd_65_133__2 : decode jdk_65_method_133_code 2 = .ok (.invokestatic 343, 3) := by decide +kernel
theorem pd__II_V : parseMethodDescriptor "(II)V" = some ⟨[.int, .int], none⟩ := by decide +kernel
theorem jd_65_133__5 : decode jdk_65_method_133_code 5 = .ok (.iload_n 2, 1) := by decide +kernel
theorem jd_65_133__6 : decode jdk_65_method_133_code 6 = .ok (.iload_n 1, 1) := by decide +kernel
theorem jd_65_133__7 : decode jdk_65_method_133_code 7 = .ok (.isub, 1) := by decide +kernel
theorem jd_65_133__8 : decode jdk_65_method_133_code 8 = .ok (.istore_n 3, 1) := by decide +kernel
theorem jd_65_133__9 : decode jdk_65_method_133_code 9 = .ok (.iload_n 3, 1) := by decide +kernel
theorem jd_65_133__10 : decode jdk_65_method_133_code 10 = .ok (.newarray .byte, 2) := by decide +kernel
theorem jd_65_133__12 : decode jdk_65_method_133_code 12 = .ok (.astore 4, 2) := by decide +kernel
theorem jd_65_133__14 : decode jdk_65_method_133_code 14 = .ok (.aload_n 0, 1) := by decide +kernel
theorem jd_65_133__15 : decode jdk_65_method_133_code 15 = .ok (.iload_n 1, 1) := by decide +kernel
theorem jd_65_133__16 : decode jdk_65_method_133_code 16 = .ok (.aload 4, 2) := by decide +kernel
theorem jd_65_133__18 : decode jdk_65_method_133_code 18 = .ok (.iconst 0, 1) := by decide +kernel
theorem jd_65_133__19 : decode jdk_65_method_133_code 19 = .ok (.aload_n 0, 1) := by decide +kernel
theorem jd_65_133__20 : decode jdk_65_method_133_code 20 = .ok (.arraylength, 1) := by decide +kernel
theorem jd_65_133__21 : decode jdk_65_method_133_code 21 = .ok (.iload_n 1, 1) := by decide +kernel
theorem jd_65_133__22 : decode jdk_65_method_133_code 22 = .ok (.isub, 1) := by decide +kernel
theorem jd_65_133__23 : decode jdk_65_method_133_code 23 = .ok (.iload_n 3, 1) := by decide +kernel
theorem jd_65_133__24 : decode jdk_65_method_133_code 24 = .ok (.invokestatic 304, 3) := by decide +kernel
theorem pd__II_I : parseMethodDescriptor "(II)I" = some ⟨[.int, .int], some .int⟩ := by decide +kernel
theorem jd_65_133__27 : decode jdk_65_method_133_code 27 = .ok (.invokestatic 150, 3) := by decide +kernel
theorem jd_65_133__30 : decode jdk_65_method_133_code 30 = .ok (.aload 4, 2) := by decide +kernel
theorem jd_65_133__32 : decode jdk_65_method_133_code 32 = .ok (.areturn, 1) := by decide +kernel
set_option maxRecDepth 65536 in
set_option maxHeartbeats 40000000 in
theorem rmCB (l : Launch) (Z : State) (a0 : Array Value) (hw : ∀ d ∈ tables_1, d.before a0 Z = true) (ab : Addr) (k : Int32) (xs : List Value) (n0 : Nat) (h0 : Heap) (Z0 : n0 ≤ h0.size) (Vb : AV Z h0 ab .byte xs) (hk0 : ¬ k < (0 : Int32)) (hk1 : k < (16 : Int32)) (hk7 : k.toNatClampNeg ≤ 7) (hk16 : ¬ k = (16 : Int32)) (hxl : xs.length = 16) (q2 : xs.all (fits .byte) = true) : Con l Z (⟨"java/util/Arrays", "copyOfRangeByte", "([BII)[B"⟩ : MethodName) jdk_65_method_133_code 5 (some (.array .byte)) [] ({ frames := 1, cells := 1, slots := 7, locals := 40 } : Room) #[(.ref ab), (.int (0 : Int32)), (.int k)] h0 (fun v h L => ∃ b : Addr, v = some (.ref b) ∧ Fr n0 L ∧ Keep h0 h [] ∧ h0.size ≤ b ∧ AV Z h b .byte (own_put (List.replicate k.toNatClampNeg (.int 0)) xs (0 : Int32) k)) := by
  refine Con.of (plainFor_of_name pn_java_util_Arrays) ?_
  intro p e s m below meth c T X hx hby hml hown hnm hret eT hZ hsh Φ fin
  replace hown : s.vm.findClass "java/util/Arrays" = some m.cls := hown
  replace hml : 5 = c.maxLocals := hml.symm
  refine own_step (fun tq kq => castTop (ef_rmCB m ab (0 : Int32) k) kq) ?_
  have N0 := Fr.nil n0
  have K0 : Keep h0 h0 [] := Keep.refl h0 []
  refine own_iloadN X hx hby jd_65_133__0 rfl (pc' := 1) rfl ?_
  refine own_iloadN X hx hby jd_65_133__1 rfl (pc' := 2) rfl ?_
  refine own_callS X hx hby hZ (by exact hml) hown (own_w hw 170 rfl) (own_w hw 171 rfl) (own_w hw 165 rfl) (own_w hw 172 rfl) (by decide) eT 0 (by decide) (by decide) (by decide) (by decide) (argsL := [(.int (0 : Int32)), (.int k)]) (rest := []) (lenOf pd__II_V rfl) rfl (rmCl l Z a0 hw k h0 hk0) (Nat.le_of_eq rfl) jd_65_133__2 (pc' := 5) rfl ?_
  intro v1 T1 L1 X1 hQ1
  obtain ⟨rfl, rfl, e1⟩ := hQ1
  rw [List.append_nil] at X1
  replace e1 : T1.heap = h0 := e1
  show GoP p e below Φ (T1.setTop (mkF m 5 #[.val (.ref ab), .val (.int (0 : Int32)), .val (.int k), .unset, .unset] []))
  refine own_iloadN X1 hx hby jd_65_133__5 rfl (pc' := 6) rfl ?_
  refine own_iloadN X1 hx hby jd_65_133__6 rfl (pc' := 7) rfl ?_
  refine own_isub X1 hx hby jd_65_133__7 (pc' := 8) rfl ?_
  rw [own_sub0]
  show GoP p e below Φ (T1.setTop (mkF m 8 #[.val (.ref ab), .val (.int (0 : Int32)), .val (.int k), .unset, .unset] [(.int k)]))
  refine own_istoreN X1 hx hby jd_65_133__8  (Ls' := #[.val (.ref ab), .val (.int (0 : Int32)), .val (.int k), .val (.int k), .unset]) rfl (pc' := 9) rfl ?_
  refine own_iloadN X1 hx hby jd_65_133__9 rfl (pc' := 10) rfl ?_
  obtain ⟨T2, h2, k2, X2, e2, E2, A2, st2⟩ := newP X1 hx hZ (own_w hw 26 rfl) e1 (g := (mkF m 10 #[.val (.ref ab), .val (.int (0 : Int32)), .val (.int k), .val (.int k), .unset] [(.int k)])) rfl (hb hby jd_65_133__10) rfl hk0 (cap := 7) hk7 (by decide) (by decide) (by decide)
  obtain ⟨b2, g2⟩ : ∃ z, z = h0.size := ⟨_, rfl⟩
  have ne_ab_b2 : ab ≠ b2 := Nat.ne_of_lt (g2 ▸ Vb.lt)
  have V3_ab := Vb.ext E2
  have Z2 : n0 ≤ h2.size := Nat.le_trans Z0 E2.1
  have n0_b2 : n0 ≤ b2 := g2 ▸ Z0
  have sz_b2 : h0.size ≤ b2 := g2 ▸ K0.1
  have K2 : Keep h0 h2 [] := K0.ext E2
  rw [← g2] at A2 st2
  refine own_step st2 ?_
  have V2 : AV Z h2 b2 .byte (List.replicate (k).toNatClampNeg (.int (0 : Int32))) := AV.new A2 hk0
  show GoP p e below Φ (T2.setTop (mkF m 12 #[.val (.ref ab), .val (.int (0 : Int32)), .val (.int k), .val (.int k), .unset] [(.ref b2)]))
  refine own_astore X2 hx hby jd_65_133__12 rfl (Ls' := #[.val (.ref ab), .val (.int (0 : Int32)), .val (.int k), .val (.int k), .val (.ref b2)]) rfl (pc' := 14) rfl ?_
  refine own_aloadN X2 hx hby jd_65_133__14 rfl rfl (pc' := 15) rfl ?_
  refine own_iloadN X2 hx hby jd_65_133__15 rfl (pc' := 16) rfl ?_
  refine own_aload X2 hx hby jd_65_133__16 rfl rfl (pc' := 18) rfl ?_
  refine own_iconst X2 hx hby jd_65_133__18 (v := (0 : Int32)) rfl (pc' := 19) rfl ?_
  refine own_aloadN X2 hx hby jd_65_133__19 rfl rfl (pc' := 20) rfl ?_
  refine own_alen X2 hx hby hZ e2 (n := (16 : Int32)) V3_ab (by rw [hxl]; rfl) jd_65_133__20 (pc' := 21) rfl ?_
  refine own_iloadN X2 hx hby jd_65_133__21 rfl (pc' := 22) rfl ?_
  refine own_isub X2 hx hby jd_65_133__22 (pc' := 23) rfl ?_
  show GoP p e below Φ (T2.setTop (mkF m 23 #[.val (.ref ab), .val (.int (0 : Int32)), .val (.int k), .val (.int k), .val (.ref b2)] [(.int (16 : Int32)), (.int (0 : Int32)), (.ref b2), (.int (0 : Int32)), (.ref ab)]))
  refine own_iloadN X2 hx hby jd_65_133__23 rfl (pc' := 24) rfl ?_
  refine own_callS X2 hx hby hZ (by exact hml) hown (own_w hw 173 rfl) (own_w hw 174 rfl) (own_w hw 175 rfl) (own_w hw 176 rfl) (by decide) e2 4 (by decide) (by decide) (by decide) (by decide) (argsL := [(.int (16 : Int32)), (.int k)]) (rest := [(.int (0 : Int32)), (.ref b2), (.int (0 : Int32)), (.ref ab)]) (lenOf pd__II_I rfl) rfl (rmMn l Z a0 hw k h2 hk1) (Nat.le_of_eq rfl) jd_65_133__24 (pc' := 27) rfl ?_
  intro v4 T4 L4 X4 hQ4
  obtain ⟨rfl, rfl, e4⟩ := hQ4
  rw [List.append_nil] at X4
  replace e4 : T4.heap = h2 := e4
  show GoP p e below Φ (T4.setTop (mkF m 27 #[.val (.ref ab), .val (.int (0 : Int32)), .val (.int k), .val (.int k), .val (.ref b2)] [(.int k), (.int (0 : Int32)), (.ref b2), (.int (0 : Int32)), (.ref ab)]))
  refine own_copyV X4 hx hby (dv := .int 0) hZ (by exact hml) hown (own_w hw 177 rfl) (own_w hw 131 rfl) (own_w hw 129 rfl) (own_w hw 130 rfl) e4 V3_ab V2 q2 (own_repfit _) rfl (by decide) (by decide) hk0 (by rw [hxl]; show 0 + _ ≤ 16; omega) (by rw [List.length_replicate]; show 0 + _ ≤ _; omega) N0 n0_b2 (by decide) 0 (Nat.le_of_eq rfl) (by decide) jd_65_133__27 (pc' := 30) rfl ?_
  intro T5 h5 L5 X5 e5 Nn5 K5 V5
  replace V5 : AV Z h5 b2 .byte (own_put (List.replicate k.toNatClampNeg (.int 0)) xs (0 : Int32) k) := V5
  have KC5 : Keep h0 h5 [] := K2.trans K5 (allS (Or.inr sz_b2) all0)
  refine own_aload X5 hx hby jd_65_133__30 rfl rfl (pc' := 32) rfl ?_
  exact own_retA X5 hx hby fin hret rfl rfl rfl jd_65_133__32 (by decide) (by decide) (by rw [e5]; exact ⟨b2, rfl, Nn5, KC5, sz_b2, V5⟩)
theorem ef_rmCR (m : MethodId) (x0 : Addr) (x1 : Int32) (x2 : Int32) : entryFrame m #[(.ref x0), (.int x1), (.int x2)] 3 = mkF m 0 #[.val (.ref x0), .val (.int x1), .val (.int x2)] [] := by first | (simp [entryFrame, mkF, argsToLocals, Value.category]; done) | rfl
theorem jd_65_132__0 : decode jdk_65_method_132_code 0 = .ok (.iload_n 1, 1) := by decide +kernel
theorem jd_65_132__1 : decode jdk_65_method_132_code 1 = .ok (.ifCond .ne 9, 3) := by decide +kernel
theorem jd_65_132__4 : decode jdk_65_method_132_code 4 = .ok (.iload_n 2, 1) := by decide +kernel
theorem jd_65_132__5 : decode jdk_65_method_132_code 5 = .ok (.aload_n 0, 1) := by decide +kernel
theorem jd_65_132__6 : decode jdk_65_method_132_code 6 = .ok (.arraylength, 1) := by decide +kernel
theorem jd_65_132__7 : decode jdk_65_method_132_code 7 = .ok (.if_icmp .eq 10, 3) := by decide +kernel
theorem jd_65_132__10 : decode jdk_65_method_132_code 10 = .ok (.aload_n 0, 1) := by decide +kernel
theorem jd_65_132__11 : decode jdk_65_method_132_code 11 = .ok (.iload_n 1, 1) := by decide +kernel
theorem jd_65_132__12 : decode jdk_65_method_132_code 12 = .ok (.iload_n 2, 1) := by decide +kernel
theorem jd_65_132__13 : decode jdk_65_method_132_code 13 = .ok (.invokestatic 339, 3) := by decide +kernel
theorem pd___BII__B : parseMethodDescriptor "([BII)[B" = some ⟨[(.array .byte), .int, .int], some (.array .byte)⟩ := by decide +kernel
theorem jd_65_132__16 : decode jdk_65_method_132_code 16 = .ok (.areturn, 1) := by decide +kernel
set_option maxRecDepth 65536 in
set_option maxHeartbeats 40000000 in
theorem rmCR (l : Launch) (Z : State) (a0 : Array Value) (hw : ∀ d ∈ tables_1, d.before a0 Z = true) (ab : Addr) (k : Int32) (xs : List Value) (n0 : Nat) (h0 : Heap) (Z0 : n0 ≤ h0.size) (Vb : AV Z h0 ab .byte xs) (hk0 : ¬ k < (0 : Int32)) (hk1 : k < (16 : Int32)) (hk7 : k.toNatClampNeg ≤ 7) (hk16 : ¬ k = (16 : Int32)) (hxl : xs.length = 16) (q2 : xs.all (fits .byte) = true) : Con l Z (⟨"java/util/Arrays", "copyOfRange", "([BII)[B"⟩ : MethodName) jdk_65_method_132_code 3 (some (.array .byte)) [] ({ frames := 2, cells := 1, slots := 7, locals := 60 } : Room) #[(.ref ab), (.int (0 : Int32)), (.int k)] h0 (fun v h L => ∃ b : Addr, v = some (.ref b) ∧ Fr n0 L ∧ Keep h0 h [] ∧ h0.size ≤ b ∧ AV Z h b .byte (own_put (List.replicate k.toNatClampNeg (.int 0)) xs (0 : Int32) k)) := by
  refine Con.of (plainFor_of_name pn_java_util_Arrays) ?_
  intro p e s m below meth c T X hx hby hml hown hnm hret eT hZ hsh Φ fin
  replace hown : s.vm.findClass "java/util/Arrays" = some m.cls := hown
  replace hml : 3 = c.maxLocals := hml.symm
  refine own_step (fun tq kq => castTop (ef_rmCR m ab (0 : Int32) k) kq) ?_
  have N0 := Fr.nil n0
  have K0 : Keep h0 h0 [] := Keep.refl h0 []
  refine own_iloadN X hx hby jd_65_132__0 rfl (pc' := 1) rfl ?_
  refine own_ifN X hx hby jd_65_132__1 ((if0 _ _).trans (teq (by decide)).2) (pc' := 4) rfl ?_
  refine own_iloadN X hx hby jd_65_132__4 rfl (pc' := 5) rfl ?_
  refine own_aloadN X hx hby jd_65_132__5 rfl rfl (pc' := 6) rfl ?_
  refine own_alen X hx hby hZ eT (n := (16 : Int32)) Vb (by rw [hxl]; rfl) jd_65_132__6 (pc' := 7) rfl ?_
  refine own_icmpN X hx hby jd_65_132__7 (feq hk16).1 (pc' := 10) rfl ?_
  refine own_aloadN X hx hby jd_65_132__10 rfl rfl (pc' := 11) rfl ?_
  refine own_iloadN X hx hby jd_65_132__11 rfl (pc' := 12) rfl ?_
  refine own_iloadN X hx hby jd_65_132__12 rfl (pc' := 13) rfl ?_
  refine own_callS X hx hby hZ (by exact hml) hown (own_w hw 167 rfl) (own_w hw 168 rfl) (own_w hw 165 rfl) (own_w hw 169 rfl) (by decide) eT 0 (by decide) (by decide) (by decide) (by decide) (argsL := [(.ref ab), (.int (0 : Int32)), (.int k)]) (rest := []) (lenOf pd___BII__B rfl) rfl (rmCB l Z a0 hw ab k xs n0 h0 Z0 Vb hk0 hk1 hk7 hk16 hxl q2) (Nat.le_of_eq rfl) jd_65_132__13 (pc' := 16) rfl ?_
  intro v1 T1 L1 X1 hQ1
  obtain ⟨bb1, rfl, Nq1, K1, sb1, V1⟩ := hQ1
  have szb : h0.size ≤ bb1 := Nat.le_trans K0.1 sb1
  have N1 := Fr.app N0 Nq1
  have Z1 : n0 ≤ T1.heap.size := Nat.le_trans Z0 K1.1
  have KK1 : Keep h0 T1.heap [] := K0.trans K1 all0
  show GoP p e below Φ (T1.setTop (mkF m 16 #[.val (.ref ab), .val (.int (0 : Int32)), .val (.int k)] [(.ref bb1)]))
  exact own_retA X1 hx hby fin hret rfl rfl rfl jd_65_132__16 (by decide) (by decide) ⟨bb1, rfl, N1, KK1, szb, V1⟩
theorem ef_rmSA (m : MethodId) (x0 : Addr) (x1 : Addr) : entryFrame m #[(.ref x0), (.ref x1), .null] 5 = mkF m 0 #[.val (.ref x0), .val (.ref x1), .val .null, .unset, .unset] [] := by first | (simp [entryFrame, mkF, argsToLocals, Value.category]; done) | rfl
theorem jd_42_150__0 : decode jdk_42_method_150_code 0 = .ok (.aload_n 0, 1) := by decide +kernel
theorem jd_42_150__1 : decode jdk_42_method_150_code 1 = .ok (.invokespecial 1, 3) := by decide +kernel
theorem jd_42_150__4 : decode jdk_42_method_150_code 4 = .ok (.aload_n 1, 1) := by decide +kernel
theorem jd_42_150__5 : decode jdk_42_method_150_code 5 = .ok (.invokevirtual 552, 3) := by decide +kernel
theorem pd____B : parseMethodDescriptor "()[B" = some ⟨[], some (.array .byte)⟩ := by decide +kernel
theorem jd_42_150__8 : decode jdk_42_method_150_code 8 = .ok (.astore_n 3, 1) := by decide +kernel
theorem jd_42_150__9 : decode jdk_42_method_150_code 9 = .ok (.aload_n 1, 1) := by decide +kernel
theorem jd_42_150__10 : decode jdk_42_method_150_code 10 = .ok (.invokevirtual 549, 3) := by decide +kernel
theorem jd_42_150__13 : decode jdk_42_method_150_code 13 = .ok (.istore 4, 2) := by decide +kernel
theorem jd_42_150__15 : decode jdk_42_method_150_code 15 = .ok (.aload_n 1, 1) := by decide +kernel
theorem jd_42_150__16 : decode jdk_42_method_150_code 16 = .ok (.invokevirtual 1047, 3) := by decide +kernel
theorem pd___Z : parseMethodDescriptor "()Z" = some ⟨[], some .boolean⟩ := by decide +kernel
theorem jd_42_150__19 : decode jdk_42_method_150_code 19 = .ok (.ifCond .eq 22, 3) := by decide +kernel
theorem jd_42_150__22 : decode jdk_42_method_150_code 22 = .ok (.aload_n 0, 1) := by decide +kernel
theorem jd_42_150__23 : decode jdk_42_method_150_code 23 = .ok (.iconst 0, 1) := by decide +kernel
theorem jd_42_150__24 : decode jdk_42_method_150_code 24 = .ok (.putfield 15, 3) := by decide +kernel
theorem jd_42_150__27 : decode jdk_42_method_150_code 27 = .ok (.aload_n 0, 1) := by decide +kernel
theorem jd_42_150__28 : decode jdk_42_method_150_code 28 = .ok (.aload_n 3, 1) := by decide +kernel
theorem jd_42_150__29 : decode jdk_42_method_150_code 29 = .ok (.iconst 0, 1) := by decide +kernel
theorem jd_42_150__30 : decode jdk_42_method_150_code 30 = .ok (.iload 4, 2) := by decide +kernel
theorem jd_42_150__32 : decode jdk_42_method_150_code 32 = .ok (.invokestatic 54, 3) := by decide +kernel
theorem jd_42_150__35 : decode jdk_42_method_150_code 35 = .ok (.putfield 9, 3) := by decide +kernel
theorem jd_42_150__38 : decode jdk_42_method_150_code 38 = .ok (.goto 59, 3) := by decide +kernel
theorem jd_42_150__97 : decode jdk_42_method_150_code 97 = .ok (.return_, 1) := by decide +kernel
set_option maxRecDepth 65536 in
set_option maxHeartbeats 40000000 in
theorem rmSA (l : Launch) (Z : State) (a0 : Array Value) (hw : ∀ d ∈ tables_1, d.before a0 Z = true) (r a ab : Addr) (cs k : Int32) (xs : List Value) (n0 : Nat) (h0 : Heap) (hcs : ¬ cs = (0 : Int32)) (Scs : Sta Z h0 "java/lang/String" "COMPACT_STRINGS" "Z" (.int cs))(n0_r : n0 ≤ r) (Z0 : n0 ≤ h0.size) (ne_r_a : r ≠ a) (ne_r_ab : r ≠ ab) (E : Exa Z h0 r "java/lang/String") (F : Fld Z h0 r "java/lang/String" "coder" "B" (.int (0 : Int32))) (G : Fld Z h0 r "java/lang/String" "value" "[B" .null) (Eb : Exa Z h0 a "java/lang/StringBuilder") (Fv : Fld Z h0 a "java/lang/AbstractStringBuilder" "value" "[B" (.ref ab)) (Fc : Fld Z h0 a "java/lang/AbstractStringBuilder" "coder" "B" (.int (0 : Int32))) (Fn : Fld Z h0 a "java/lang/AbstractStringBuilder" "count" "I" (.int k)) (Vb : AV Z h0 ab .byte xs)(hk0 : ¬ k < (0 : Int32)) (hk1 : k < (16 : Int32)) (hk7 : k.toNatClampNeg ≤ 7) (hk16 : ¬ k = (16 : Int32)) (hxl : xs.length = 16) (q2 : xs.all (fits .byte) = true) : Con l Z (⟨"java/lang/String", "<init>", "(Ljava/lang/AbstractStringBuilder;Ljava/lang/Void;)V"⟩ : MethodName) jdk_42_method_150_code 5 none [] ({ frames := 3, cells := 1, slots := 7, locals := 80 } : Room) #[(.ref r), (.ref a), .null] h0 (fun v h L => v = none ∧ Fr n0 L ∧ Keep h0 h [r] ∧ ∃ b : Addr, h0.size ≤ b ∧ Exa Z h r "java/lang/String" ∧ Fld Z h r "java/lang/String" "coder" "B" (.int (0 : Int32)) ∧ Fld Z h r "java/lang/String" "value" "[B" (.ref b) ∧ AV Z h b .byte (own_put (List.replicate k.toNatClampNeg (.int 0)) xs (0 : Int32) k)) := by
  refine Con.of (plainFor_of_name pn_java_lang_String) ?_
  intro p e s m below meth c T X hx hby hml hown hnm hret eT hZ hsh Φ fin
  replace hown : s.vm.findClass "java/lang/String" = some m.cls := hown
  replace hml : 5 = c.maxLocals := hml.symm
  refine own_step (fun tq kq => castTop (ef_rmSA m r a) kq) ?_
  have N0 := Fr.nil n0
  have K0 : Keep h0 h0 [r] := Keep.refl h0 [r]
  refine own_aloadN X hx hby jd_42_150__0 rfl rfl (pc' := 1) rfl ?_
  obtain ⟨T1, X1, e1, st1⟩ := initO X hx hZ hown (own_w hw 18 rfl) (own_w hw 19 rfl) (own_w hw 20 rfl) eT (g := (mkF m 1 #[.val (.ref r), .val (.ref a), .val .null, .unset, .unset] [(.ref r)])) rfl hml rfl (hb hby jd_42_150__1) (by decide) (W := 0) (by show 2 * 0 + _ ≤ _; exact Nat.le_of_eq rfl) (by decide)
  refine own_step st1 ?_
  show GoP p e below Φ (T1.setTop (mkF m 4 #[.val (.ref r), .val (.ref a), .val .null, .unset, .unset] []))
  refine own_aloadN X1 hx hby jd_42_150__4 rfl rfl (pc' := 5) rfl ?_
  refine own_callV X1 hx hby hZ (by exact hml) hown (own_w hw 145 rfl) (own_w hw 146 rfl) (own_w hw 148 rfl) (own_w hw 147 rfl) (own_w hw 77 rfl) (own_w hw 149 rfl) (by decide) e1 0 (by decide) (by decide) (by decide) (by decide) (argsL := []) (rest := []) (lenOf pd____B rfl) rfl (Nat.le_of_eq rfl) Eb (rmGV l Z a0 hw a ab h0 Fv) jd_42_150__5 (pc' := 8) rfl ?_
  intro v2 T2 L2 X2 hQ2
  obtain ⟨rfl, rfl, e2⟩ := hQ2
  rw [List.append_nil] at X2
  replace e2 : T2.heap = h0 := e2
  show GoP p e below Φ (T2.setTop (mkF m 8 #[.val (.ref r), .val (.ref a), .val .null, .unset, .unset] [(.ref ab)]))
  refine own_astoreN X2 hx hby jd_42_150__8 rfl (Ls' := #[.val (.ref r), .val (.ref a), .val .null, .val (.ref ab), .unset]) rfl (pc' := 9) rfl ?_
  refine own_aloadN X2 hx hby jd_42_150__9 rfl rfl (pc' := 10) rfl ?_
  refine own_callZ X2 hx hby hZ (by exact hml) hown (z := ({ cls := "java/lang/AbstractStringBuilder", name := "ensureCapacityInternal", desc := "(I)V" } : Jvm.MethodName)) (x0 := (⟨"java/lang/AbstractStringBuilder", "length", "()I"⟩ : MethodName)) (y := (⟨"java/lang/StringBuilder", "length", "()I"⟩ : MethodName)) (own_w hw 150 rfl) (own_w hw 151 rfl) rfl (own_w hw 110 rfl) (own_w hw 153 rfl) (own_w hw 154 rfl) (own_w hw 69 rfl) (own_w hw 155 rfl) (by decide) e2 0 (by decide) (by decide) (by decide) (by decide) (argsL := []) (rest := []) (lenOf pd___I rfl) rfl (Nat.le_of_eq rfl) Eb (rmLB l Z a0 hw a k h0 Eb Fn) jd_42_150__10 (pc' := 13) rfl ?_
  intro v3 T3 L3 X3 hQ3
  obtain ⟨rfl, rfl, e3⟩ := hQ3
  rw [List.append_nil] at X3
  replace e3 : T3.heap = h0 := e3
  show GoP p e below Φ (T3.setTop (mkF m 13 #[.val (.ref r), .val (.ref a), .val .null, .val (.ref ab), .unset] [(.int k)]))
  refine own_istore X3 hx hby jd_42_150__13  (Ls' := #[.val (.ref r), .val (.ref a), .val .null, .val (.ref ab), .val (.int k)]) rfl (pc' := 15) rfl ?_
  refine own_aloadN X3 hx hby jd_42_150__15 rfl rfl (pc' := 16) rfl ?_
  refine own_callV X3 hx hby hZ (by exact hml) hown (own_w hw 158 rfl) (own_w hw 159 rfl) (own_w hw 161 rfl) (own_w hw 160 rfl) (own_w hw 77 rfl) (own_w hw 162 rfl) (by decide) e3 0 (by decide) (by decide) (by decide) (by decide) (argsL := []) (rest := []) (lenOf pd___Z rfl) rfl (Nat.le_of_eq rfl) Eb (rmL1 l Z a0 hw a cs h0 hcs Scs Fc) jd_42_150__16 (pc' := 19) rfl ?_
  intro v4 T4 L4 X4 hQ4
  obtain ⟨rfl, rfl, e4⟩ := hQ4
  rw [List.append_nil] at X4
  replace e4 : T4.heap = h0 := e4
  show GoP p e below Φ (T4.setTop (mkF m 19 #[.val (.ref r), .val (.ref a), .val .null, .val (.ref ab), .val (.int k)] [(.int (1 : Int32))]))
  refine own_ifN X4 hx hby jd_42_150__19 ((if0 _ _).trans (feq (by decide)).1) (pc' := 22) rfl ?_
  refine own_aloadN X4 hx hby jd_42_150__22 rfl rfl (pc' := 23) rfl ?_
  refine own_iconst X4 hx hby jd_42_150__23 (v := (0 : Int32)) rfl (pc' := 24) rfl ?_
  obtain ⟨T5, h5, X5, e5, W5, st5⟩ := putFN X4 hx hZ hown (own_w hw 33 rfl) Via.refl e4 F E (Or.inr ⟨(own_w hw 34 rfl), rfl, hnm⟩) (own_w hw 5 rfl) (ty := .byte) (v' := (.int (0 : Int32))) (by decide) rfl (by decide) (g := (mkF m 24 #[.val (.ref r), .val (.ref a), .val .null, .val (.ref ab), .val (.int k)] [(.int (0 : Int32)), (.ref r)])) rfl rfl (hb hby jd_42_150__24)
  refine own_step st5 ?_
  have S6_COMPACT_STRINGS := Scs.wr W5
  have E7_r := E.wr W5
  have F8_coder := F.same W5
  have F9_value := G.other W5 (Or.inr (slot_ne (Or.inr (own_w hw 36 rfl)) (Or.inr (own_w hw 34 rfl)) (by decide) (t := (.array .byte)) (t' := .byte) (by decide) (by decide)))
  have V10_ab := Vb.other W5 (Ne.symm ne_r_ab)
  have Z5 : n0 ≤ h5.size := by rw [W5.size]; exact Z0
  have N5 := Fr.snoc X5 N0 n0_r
  have K5 : Keep h0 h5 [r] := K0.wr W5 (Or.inl (List.mem_of_getElem? (i := 0) rfl))
  show GoP p e below Φ (T5.setTop (mkF m 27 #[.val (.ref r), .val (.ref a), .val .null, .val (.ref ab), .val (.int k)] []))
  refine own_aloadN X5 hx hby jd_42_150__27 rfl rfl (pc' := 28) rfl ?_
  refine own_aloadN X5 hx hby jd_42_150__28 rfl rfl (pc' := 29) rfl ?_
  refine own_iconst X5 hx hby jd_42_150__29 (v := (0 : Int32)) rfl (pc' := 30) rfl ?_
  refine own_iload X5 hx hby jd_42_150__30 rfl (pc' := 32) rfl ?_
  refine own_callS X5 hx hby hZ (by exact hml) hown (own_w hw 163 rfl) (own_w hw 164 rfl) (own_w hw 165 rfl) (own_w hw 166 rfl) (by decide) e5 1 (by decide) (by decide) (by decide) (by decide) (argsL := [(.ref ab), (.int (0 : Int32)), (.int k)]) (rest := [(.ref r)]) (lenOf pd___BII__B rfl) rfl (rmCR l Z a0 hw ab k xs n0 h5 Z5 V10_ab hk0 hk1 hk7 hk16 hxl q2) (Nat.le_of_eq rfl) jd_42_150__32 (pc' := 35) rfl ?_
  intro v11 T11 L11 X11 hQ11
  obtain ⟨bb11, rfl, Nq11, K11, sb11, V11⟩ := hQ11
  have ne_r_bb11 : r ≠ bb11 := Nat.ne_of_lt (Nat.lt_of_lt_of_le E7_r.lt sb11)
  have szb : h0.size ≤ bb11 := Nat.le_trans K5.1 sb11
  have E12_r := E7_r.keep K11
  have F13_coder := F8_coder.keep K11 nin0
  have F14_value := F9_value.keep K11 nin0
  have N11 := Fr.app N5 Nq11
  have Z11 : n0 ≤ T11.heap.size := Nat.le_trans Z5 K11.1
  have KK11 : Keep h0 T11.heap [r] := K5.trans K11 all0
  show GoP p e below Φ (T11.setTop (mkF m 35 #[.val (.ref r), .val (.ref a), .val .null, .val (.ref ab), .val (.int k)] [(.ref bb11), (.ref r)]))
  refine own_putF X11 hx hby hZ hown (host := "") (Or.inl (own_w hw 35 rfl)) Via.refl rfl F14_value E12_r (Or.inr ⟨(own_w hw 36 rfl), rfl, hnm⟩) (own_w hw 5 rfl) (ty := (.array .byte)) (by decide) rfl rfl jd_42_150__35 (pc' := 38) rfl ?_
  intro T15 h15 X15 e15 W15
  have E16_r := E12_r.wr W15
  have F17_coder := F13_coder.other W15 (Or.inr (slot_ne (Or.inr (own_w hw 34 rfl)) (Or.inr (own_w hw 36 rfl)) (by decide) (t := .byte) (t' := (.array .byte)) (by decide) (by decide)))
  have F18_value := F14_value.same W15
  have V19_bb11 := V11.other W15 (Ne.symm ne_r_bb11)
  have Z15 : n0 ≤ h15.size := by rw [W15.size]; exact Z11
  have N15 := Fr.snoc X15 N11 n0_r
  have K15 : Keep h0 h15 [r] := KK11.wr W15 (Or.inl (List.mem_of_getElem? (i := 0) rfl))
  refine own_goto X15 hx hby jd_42_150__38 (by decide) (pc' := 97) (by decide) ?_
  exact own_ret0 X15 hx hby fin hret jd_42_150__97 (by decide) (by decide) (by rw [e15]; exact ⟨rfl, N15, K15, bb11, szb, E16_r, F17_coder, F18_value, V19_bb11⟩)
theorem ef_rmSB (m : MethodId) (x0 : Addr) (x1 : Addr) : entryFrame m #[(.ref x0), (.ref x1)] 2 = mkF m 0 #[.val (.ref x0), .val (.ref x1)] [] := by first | (simp [entryFrame, mkF, argsToLocals, Value.category]; done) | rfl
theorem jd_42_53__0 : decode jdk_42_method_53_code 0 = .ok (.aload_n 0, 1) := by decide +kernel
theorem jd_42_53__1 : decode jdk_42_method_53_code 1 = .ok (.aload_n 1, 1) := by decide +kernel
theorem jd_42_53__2 : decode jdk_42_method_53_code 2 = .ok (.aconst_null, 1) := by decide +kernel
theorem jd_42_53__3 : decode jdk_42_method_53_code 3 = .ok (.invokespecial 489, 3) := by decide +kernel
theorem pd__Ljava_lang_AbstractStringBuilder_Ljava_lang_Void__V : parseMethodDescriptor "(Ljava/lang/AbstractStringBuilder;Ljava/lang/Void;)V" = some ⟨[(.object "java/lang/AbstractStringBuilder"), (.object "java/lang/Void")], none⟩ := by decide +kernel
theorem jd_42_53__6 : decode jdk_42_method_53_code 6 = .ok (.return_, 1) := by decide +kernel
set_option maxRecDepth 65536 in
set_option maxHeartbeats 40000000 in
theorem rmSB (l : Launch) (Z : State) (a0 : Array Value) (hw : ∀ d ∈ tables_1, d.before a0 Z = true) (r a ab : Addr) (cs k : Int32) (xs : List Value) (n0 : Nat) (h0 : Heap) (hcs : ¬ cs = (0 : Int32)) (Scs : Sta Z h0 "java/lang/String" "COMPACT_STRINGS" "Z" (.int cs))(n0_r : n0 ≤ r) (Z0 : n0 ≤ h0.size) (ne_r_a : r ≠ a) (ne_r_ab : r ≠ ab) (E : Exa Z h0 r "java/lang/String") (F : Fld Z h0 r "java/lang/String" "coder" "B" (.int (0 : Int32))) (G : Fld Z h0 r "java/lang/String" "value" "[B" .null) (Eb : Exa Z h0 a "java/lang/StringBuilder") (Fv : Fld Z h0 a "java/lang/AbstractStringBuilder" "value" "[B" (.ref ab)) (Fc : Fld Z h0 a "java/lang/AbstractStringBuilder" "coder" "B" (.int (0 : Int32))) (Fn : Fld Z h0 a "java/lang/AbstractStringBuilder" "count" "I" (.int k)) (Vb : AV Z h0 ab .byte xs)(hk0 : ¬ k < (0 : Int32)) (hk1 : k < (16 : Int32)) (hk7 : k.toNatClampNeg ≤ 7) (hk16 : ¬ k = (16 : Int32)) (hxl : xs.length = 16) (q2 : xs.all (fits .byte) = true) : Con l Z (⟨"java/lang/String", "<init>", "(Ljava/lang/StringBuilder;)V"⟩ : MethodName) jdk_42_method_53_code 2 none [] ({ frames := 4, cells := 1, slots := 7, locals := 100 } : Room) #[(.ref r), (.ref a)] h0 (fun v h L => v = none ∧ Fr n0 L ∧ Keep h0 h [r] ∧ ∃ b : Addr, h0.size ≤ b ∧ Exa Z h r "java/lang/String" ∧ Fld Z h r "java/lang/String" "coder" "B" (.int (0 : Int32)) ∧ Fld Z h r "java/lang/String" "value" "[B" (.ref b) ∧ AV Z h b .byte (own_put (List.replicate k.toNatClampNeg (.int 0)) xs (0 : Int32) k)) := by
  refine Con.of (plainFor_of_name pn_java_lang_String) ?_
  intro p e s m below meth c T X hx hby hml hown hnm hret eT hZ hsh Φ fin
  replace hown : s.vm.findClass "java/lang/String" = some m.cls := hown
  replace hml : 2 = c.maxLocals := hml.symm
  refine own_step (fun tq kq => castTop (ef_rmSB m r a) kq) ?_
  have N0 := Fr.nil n0
  have K0 : Keep h0 h0 [r] := Keep.refl h0 [r]
  refine own_aloadN X hx hby jd_42_53__0 rfl rfl (pc' := 1) rfl ?_
  refine own_aloadN X hx hby jd_42_53__1 rfl rfl (pc' := 2) rfl ?_
  refine own_aconst_null X hx hby jd_42_53__2 (pc' := 3) rfl ?_
  refine own_callI X hx hby hZ (by exact hml) hown rfl (own_w hw 142 rfl) (own_w hw 143 rfl) (own_w hw 6 rfl) (own_w hw 144 rfl) (by decide) eT 0 (by decide) (by decide) (by decide) (by decide) (argsL := [(.ref a), .null]) (rest := []) (lenOf pd__Ljava_lang_AbstractStringBuilder_Ljava_lang_Void__V rfl) rfl (Nat.le_of_eq rfl) (rmSA l Z a0 hw r a ab cs k xs n0 h0 hcs Scs n0_r Z0 ne_r_a ne_r_ab E F G Eb Fv Fc Fn Vb hk0 hk1 hk7 hk16 hxl q2) jd_42_53__3 (pc' := 6) rfl ?_
  intro v1 T1 L1 X1 hQ1
  obtain ⟨rfl, Nq1, K1, bb1, sb1, E1, FC1, FV1, V1⟩ := hQ1
  have N1 := Fr.app N0 Nq1
  have Z1 : n0 ≤ T1.heap.size := Nat.le_trans Z0 K1.1
  have KK1 : Keep h0 T1.heap [r] := K0.trans K1 (allS (Or.inl (List.mem_of_getElem? (i := 0) rfl)) all0)
  show GoP p e below Φ (T1.setTop (mkF m 6 #[.val (.ref r), .val (.ref a)] []))
  exact own_ret0 X1 hx hby fin hret jd_42_53__6 (by decide) (by decide) ⟨rfl, N1, KK1, bb1, sb1, E1, FC1, FV1, V1⟩
theorem ef_rmTS (m : MethodId) (x0 : Addr) : entryFrame m #[(.ref x0)] 1 = mkF m 0 #[.val (.ref x0)] [] := by first | (simp [entryFrame, mkF, argsToLocals, Value.category]; done) | rfl
theorem jd_67_42__0 : decode jdk_67_method_42_code 0 = .ok (.new 18, 3) := by decide +kernel
theorem jd_67_42__3 : decode jdk_67_method_42_code 3 = .ok (.dup, 1) := by decide +kernel
theorem jd_67_42__4 : decode jdk_67_method_42_code 4 = .ok (.aload_n 0, 1) := by decide +kernel
theorem jd_67_42__5 : decode jdk_67_method_42_code 5 = .ok (.invokespecial 137, 3) := by decide +kernel
theorem pd__Ljava_lang_StringBuilder__V : parseMethodDescriptor "(Ljava/lang/StringBuilder;)V" = some ⟨[(.object "java/lang/StringBuilder")], none⟩ := by decide +kernel
theorem jd_67_42__8 : decode jdk_67_method_42_code 8 = .ok (.areturn, 1) := by decide +kernel
set_option maxRecDepth 65536 in
set_option maxHeartbeats 40000000 in
theorem rmTS (l : Launch) (Z : State) (a0 : Array Value) (hw : ∀ d ∈ tables_1, d.before a0 Z = true) (a ab : Addr) (cs k : Int32) (xs : List Value) (n0 : Nat) (h0 : Heap) (hcs : ¬ cs = (0 : Int32)) (Scs : Sta Z h0 "java/lang/String" "COMPACT_STRINGS" "Z" (.int cs))(Z0 : n0 ≤ h0.size) (Eb : Exa Z h0 a "java/lang/StringBuilder") (Fv : Fld Z h0 a "java/lang/AbstractStringBuilder" "value" "[B" (.ref ab)) (Fc : Fld Z h0 a "java/lang/AbstractStringBuilder" "coder" "B" (.int (0 : Int32))) (Fn : Fld Z h0 a "java/lang/AbstractStringBuilder" "count" "I" (.int k)) (Vb : AV Z h0 ab .byte xs)(hk0 : ¬ k < (0 : Int32)) (hk1 : k < (16 : Int32)) (hk7 : k.toNatClampNeg ≤ 7) (hk16 : ¬ k = (16 : Int32)) (hxl : xs.length = 16) (q2 : xs.all (fits .byte) = true) : Con l Z (⟨"java/lang/StringBuilder", "toString", "()Ljava/lang/String;"⟩ : MethodName) jdk_67_method_42_code 1 (some (.object "java/lang/String")) [] ({ frames := 5, cells := 2, slots := 11, locals := 120 } : Room) #[(.ref a)] h0 (fun v h L => ∃ r b : Addr, v = some (.ref r) ∧ Fr n0 L ∧ Keep h0 h [] ∧ h0.size ≤ r ∧ h0.size ≤ b ∧ Exa Z h r "java/lang/String" ∧ Fld Z h r "java/lang/String" "coder" "B" (.int (0 : Int32)) ∧ Fld Z h r "java/lang/String" "value" "[B" (.ref b) ∧ AV Z h b .byte (own_put (List.replicate k.toNatClampNeg (.int 0)) xs (0 : Int32) k)) := by
  refine Con.of (plainFor_of_name pn_java_lang_StringBuilder) ?_
  intro p e s m below meth c T X hx hby hml hown hnm hret eT hZ hsh Φ fin
  replace hown : s.vm.findClass "java/lang/StringBuilder" = some m.cls := hown
  replace hml : 1 = c.maxLocals := hml.symm
  refine own_step (fun tq kq => castTop (ef_rmTS m a) kq) ?_
  have N0 := Fr.nil n0
  have K0 : Keep h0 h0 [] := Keep.refl h0 []
  obtain ⟨T1, h1, X1, e1, E1, A1, D1, -, st1⟩ := newO X hx hZ hown (own_w hw 138 rfl) (own_w hw 5 rfl) (own_w hw 6 rfl) eT (g := (mkF m 0 #[.val (.ref a)] [])) rfl (hb hby jd_67_42__0) (by decide) (by decide)
  obtain ⟨b1, g1⟩ : ∃ z, z = h0.size := ⟨_, rfl⟩
  have ne_a_b1 : a ≠ b1 := Nat.ne_of_lt (g1 ▸ Eb.lt)
  have ne_ab_b1 : ab ≠ b1 := Nat.ne_of_lt (g1 ▸ Vb.lt)
  have S2_COMPACT_STRINGS := Scs.ext E1
  have E3_a := Eb.ext E1
  have F4_value := Fv.ext E1
  have F5_coder := Fc.ext E1
  have F6_count := Fn.ext E1
  have V7_ab := Vb.ext E1
  have Z1 : n0 ≤ h1.size := Nat.le_trans Z0 E1.1
  have n0_b1 : n0 ≤ b1 := g1 ▸ Z0
  have sz_b1 : h0.size ≤ b1 := g1 ▸ K0.1
  have K1 : Keep h0 h1 [] := K0.ext E1
  rw [← g1] at A1 D1 st1
  refine own_step st1 ?_
  have F1_coder : Fld Z h1 b1 "java/lang/String" "coder" "B" (.int (0 : Int32)) := D1 (Or.inr (own_w hw 34 rfl)) (ty := .byte) (by decide)
  have F1_value : Fld Z h1 b1 "java/lang/String" "value" "[B" .null := D1 (Or.inr (own_w hw 36 rfl)) (ty := (.array .byte)) (by decide)
  show GoP p e below Φ (T1.setTop (mkF m 3 #[.val (.ref a)] [(.ref b1)]))
  refine own_dup X1 hx hby jd_67_42__3 rfl (pc' := 4) rfl ?_
  refine own_aloadN X1 hx hby jd_67_42__4 rfl rfl (pc' := 5) rfl ?_
  refine own_callI X1 hx hby hZ (by exact hml) hown rfl (own_w hw 139 rfl) (own_w hw 140 rfl) (own_w hw 6 rfl) (own_w hw 141 rfl) (by decide) e1 1 (by decide) (by decide) (by decide) (by decide) (argsL := [(.ref a)]) (rest := [(.ref b1)]) (lenOf pd__Ljava_lang_StringBuilder__V rfl) rfl (Nat.le_of_eq rfl) (rmSB l Z a0 hw b1 a ab cs k xs n0 h1 hcs S2_COMPACT_STRINGS n0_b1 Z1 (Ne.symm ne_a_b1) (Ne.symm ne_ab_b1) A1 F1_coder F1_value E3_a F4_value F5_coder F6_count V7_ab hk0 hk1 hk7 hk16 hxl q2) jd_67_42__5 (pc' := 8) rfl ?_
  intro v8 T8 L8 X8 hQ8
  obtain ⟨rfl, Nq8, K8, bb8, sb8, E8, FC8, FV8, V8⟩ := hQ8
  have szb : h0.size ≤ bb8 := Nat.le_trans K1.1 sb8
  have N8 := Fr.app N0 Nq8
  have Z8 : n0 ≤ T8.heap.size := Nat.le_trans Z1 K8.1
  have KK8 : Keep h0 T8.heap [] := K1.trans K8 (allS (Or.inr sz_b1) all0)
  show GoP p e below Φ (T8.setTop (mkF m 8 #[.val (.ref a)] [(.ref b1)]))
  exact own_retA X8 hx hby fin hret rfl rfl rfl jd_67_42__8 (by decide) (by decide) ⟨b1, bb8, rfl, N8, KK8, sz_b1, szb, E8, FC8, FV8, V8⟩
theorem ef_rmPc (m : MethodId) (x0 : Int32) (x1 : Int32) (x2 : Value) (c2 : x2.category = 1) : entryFrame m #[(.int x0), (.int x1), x2] 3 = mkF m 0 #[.val (.int x0), .val (.int x1), .val x2] [] := by first | (simp [entryFrame, mkF, argsToLocals, Value.category, c2]; done) | (cases x2 <;> first | (simp [Value.category] at c2; done) | (simp [entryFrame, mkF, argsToLocals, Value.category]; done))
theorem pn_jdk_internal_util_Preconditions : plainName "jdk/internal/util/Preconditions" = true := by first | (simp [plainName, overriddenIn]; done) | decide +kernel
theorem jd_41_11__0 : decode jdk_41_method_11_code 0 = .ok (.iload_n 0, 1) := by decide +kernel
theorem jd_41_11__1 : decode jdk_41_method_11_code 1 = .ok (.ifCond .lt 8, 3) := by decide +kernel
theorem jd_41_11__4 : decode jdk_41_method_11_code 4 = .ok (.iload_n 0, 1) := by decide +kernel
theorem jd_41_11__5 : decode jdk_41_method_11_code 5 = .ok (.iload_n 1, 1) := by decide +kernel
theorem jd_41_11__6 : decode jdk_41_method_11_code 6 = .ok (.if_icmp .lt 10, 3) := by decide +kernel
theorem jd_41_11__16 : decode jdk_41_method_11_code 16 = .ok (.iload_n 0, 1) := by decide +kernel
theorem jd_41_11__17 : decode jdk_41_method_11_code 17 = .ok (.ireturn, 1) := by decide +kernel
set_option maxRecDepth 65536 in
set_option maxHeartbeats 40000000 in
theorem rmPc (l : Launch) (Z : State) (a0 : Array Value) (hw : ∀ d ∈ tables_1, d.before a0 Z = true) (i n : Int32) (wf : Value) (h0 : Heap) (hwf : wf.isRef = true) (hwc : wf.category = 1)(hi0 : ¬ i < (0 : Int32)) (hi1 : i < n) : Con l Z (⟨"jdk/internal/util/Preconditions", "checkIndex", "(IILjava/util/function/BiFunction;)I"⟩ : MethodName) jdk_41_method_11_code 3 (some .int) [] ({ frames := 0, cells := 0, slots := 0, locals := 0 } : Room) #[(.int i), (.int n), wf] h0 (fun v h L => v = some (.int i) ∧ L = [] ∧ h = h0) := by
  refine Con.of (plainFor_of_name pn_jdk_internal_util_Preconditions) ?_
  intro p e s m below meth c T X hx hby hml hown hnm hret eT hZ hsh Φ fin
  replace hown : s.vm.findClass "jdk/internal/util/Preconditions" = some m.cls := hown
  replace hml : 3 = c.maxLocals := hml.symm
  refine own_step (fun tq kq => castTop (ef_rmPc m i n wf hwc) kq) ?_
  refine own_iloadN X hx hby jd_41_11__0 rfl (pc' := 1) rfl ?_
  refine own_ifN X hx hby jd_41_11__1 ((if0 _ _).trans (flt hi0).1) (pc' := 4) rfl ?_
  refine own_iloadN X hx hby jd_41_11__4 rfl (pc' := 5) rfl ?_
  refine own_iloadN X hx hby jd_41_11__5 rfl (pc' := 6) rfl ?_
  refine own_icmpY X hx hby jd_41_11__6 (tlt hi1).1 (by decide) (pc' := 16) (by decide) ?_
  refine own_iloadN X hx hby jd_41_11__16 rfl (pc' := 17) rfl ?_
  exact own_retI X hx hby fin hret jd_41_11__17 (by decide) (by decide) ⟨rfl, rfl, eT⟩
theorem ef_rmSc (m : MethodId) (x0 : Int32) (x1 : Int32) : entryFrame m #[(.int x0), (.int x1)] 2 = mkF m 0 #[.val (.int x0), .val (.int x1)] [] := by first | (simp [entryFrame, mkF, argsToLocals, Value.category]; done) | rfl
theorem jd_42_155__0 : decode jdk_42_method_155_code 0 = .ok (.iload_n 0, 1) := by decide +kernel
theorem jd_42_155__1 : decode jdk_42_method_155_code 1 = .ok (.iload_n 1, 1) := by decide +kernel
theorem jd_42_155__2 : decode jdk_42_method_155_code 2 = .ok (.getstatic 1053, 3) := by decide +kernel
theorem jd_42_155__5 : decode jdk_42_method_155_code 5 = .ok (.invokestatic 1059, 3) := by decide +kernel
theorem pd__IILjava_util_function_BiFunction__I : parseMethodDescriptor "(IILjava/util/function/BiFunction;)I" = some ⟨[.int, .int, (.object "java/util/function/BiFunction")], some .int⟩ := by decide +kernel
theorem jd_42_155__8 : decode jdk_42_method_155_code 8 = .ok (.pop, 1) := by decide +kernel
theorem jd_42_155__9 : decode jdk_42_method_155_code 9 = .ok (.return_, 1) := by decide +kernel
set_option maxRecDepth 65536 in
set_option maxHeartbeats 40000000 in
theorem rmSc (l : Launch) (Z : State) (a0 : Array Value) (hw : ∀ d ∈ tables_1, d.before a0 Z = true) (i n : Int32) (wf : Value) (h0 : Heap) (hwf : wf.isRef = true) (hwc : wf.category = 1)(Sf : Sta Z h0 "jdk/internal/util/Preconditions" "SIOOBE_FORMATTER" "Ljava/util/function/BiFunction;" wf) (hi0 : ¬ i < (0 : Int32)) (hi1 : i < n) : Con l Z (⟨"java/lang/String", "checkIndex", "(II)V"⟩ : MethodName) jdk_42_method_155_code 2 none [] ({ frames := 1, cells := 0, slots := 0, locals := 20 } : Room) #[(.int i), (.int n)] h0 (fun v h L => v = none ∧ L = [] ∧ h = h0) := by
  refine Con.of (plainFor_of_name pn_java_lang_String) ?_
  intro p e s m below meth c T X hx hby hml hown hnm hret eT hZ hsh Φ fin
  replace hown : s.vm.findClass "java/lang/String" = some m.cls := hown
  replace hml : 2 = c.maxLocals := hml.symm
  refine own_step (fun tq kq => castTop (ef_rmSc m i n) kq) ?_
  refine own_iloadN X hx hby jd_42_155__0 rfl (pc' := 1) rfl ?_
  refine own_iloadN X hx hby jd_42_155__1 rfl (pc' := 2) rfl ?_
  refine own_getS X hx hby hZ hown (host := "") (Or.inl (own_w hw 196 rfl)) Via.refl eT Sf jd_42_155__2 (pc' := 5) rfl ?_
  intro T1 X1 e1
  refine own_callS X1 hx hby hZ (by exact hml) hown (own_w hw 198 rfl) (own_w hw 199 rfl) (own_w hw 197 rfl) (own_w hw 200 rfl) (by decide) e1 0 (by decide) (by decide) (by decide) (by decide) (argsL := [(.int i), (.int n), wf]) (rest := []) (lenOf pd__IILjava_util_function_BiFunction__I rfl) rfl (rmPc l Z a0 hw i n wf h0 hwf hwc hi0 hi1) (Nat.le_of_eq rfl) jd_42_155__5 (pc' := 8) rfl ?_
  intro v2 T2 L2 X2 hQ2
  obtain ⟨rfl, rfl, e2⟩ := hQ2
  rw [List.append_nil] at X2
  replace e2 : T2.heap = h0 := e2
  show GoP p e below Φ (T2.setTop (mkF m 8 #[.val (.int i), .val (.int n)] [(.int i)]))
  refine own_pop X2 hx hby jd_42_155__8 rfl (pc' := 9) rfl ?_
  exact own_ret0 X2 hx hby fin hret jd_42_155__9 (by decide) (by decide) ⟨rfl, rfl, e2⟩
theorem ef_rmLC (m : MethodId) (x0 : Addr) (x1 : Int32) : entryFrame m #[(.ref x0), (.int x1)] 2 = mkF m 0 #[.val (.ref x0), .val (.int x1)] [] := by first | (simp [entryFrame, mkF, argsToLocals, Value.category]; done) | rfl
theorem pn_java_lang_StringLatin1 : plainName "java/lang/StringLatin1" = true := by first | (simp [plainName, overriddenIn]; done) | decide +kernel
theorem jd_43_2__0 : decode jdk_43_method_2_code 0 = .ok (.iload_n 1, 1) := by decide +kernel
theorem jd_43_2__1 : decode jdk_43_method_2_code 1 = .ok (.aload_n 0, 1) := by decide +kernel
theorem jd_43_2__2 : decode jdk_43_method_2_code 2 = .ok (.arraylength, 1) := by decide +kernel
theorem jd_43_2__3 : decode jdk_43_method_2_code 3 = .ok (.invokestatic 9, 3) := by decide +kernel
theorem jd_43_2__6 : decode jdk_43_method_2_code 6 = .ok (.aload_n 0, 1) := by decide +kernel
theorem jd_43_2__7 : decode jdk_43_method_2_code 7 = .ok (.iload_n 1, 1) := by decide +kernel
theorem jd_43_2__8 : decode jdk_43_method_2_code 8 = .ok (.baload, 1) := by decide +kernel
theorem jd_43_2__9 : decode jdk_43_method_2_code 9 = .ok (.sipush 255, 3) := by decide +kernel
theorem jd_43_2__12 : decode jdk_43_method_2_code 12 = .ok (.iand, 1) := by decide +kernel
theorem jd_43_2__13 : decode jdk_43_method_2_code 13 = .ok (.i2c, 1) := by decide +kernel
theorem jd_43_2__14 : decode jdk_43_method_2_code 14 = .ok (.ireturn, 1) := by decide +kernel
set_option maxRecDepth 65536 in
set_option maxHeartbeats 40000000 in
theorem rmLC (l : Launch) (Z : State) (a0 : Array Value) (hw : ∀ d ∈ tables_1, d.before a0 Z = true) (b : Addr) (i n x yx : Int32) (vs : List Value) (wf : Value) (h0 : Heap) (hwf : wf.isRef = true) (hwc : wf.category = 1)(Sf : Sta Z h0 "jdk/internal/util/Preconditions" "SIOOBE_FORMATTER" "Ljava/util/function/BiFunction;" wf) (V : AV Z h0 b .byte vs) (hn : Int32.ofNat vs.length = n) (hv : vs[i.toNatClampNeg]? = some (.int x)) (hi0 : ¬ i < (0 : Int32)) (hi1 : i < n) (hyx : own_uc x = yx) : Con l Z (⟨"java/lang/StringLatin1", "charAt", "([BI)C"⟩ : MethodName) jdk_43_method_2_code 2 (some .char) [] ({ frames := 2, cells := 0, slots := 0, locals := 40 } : Room) #[(.ref b), (.int i)] h0 (fun v h L => v = some (.int yx) ∧ L = [] ∧ h = h0) := by
  refine Con.of (plainFor_of_name pn_java_lang_StringLatin1) ?_
  intro p e s m below meth c T X hx hby hml hown hnm hret eT hZ hsh Φ fin
  replace hown : s.vm.findClass "java/lang/StringLatin1" = some m.cls := hown
  replace hml : 2 = c.maxLocals := hml.symm
  refine own_step (fun tq kq => castTop (ef_rmLC m b i) kq) ?_
  refine own_iloadN X hx hby jd_43_2__0 rfl (pc' := 1) rfl ?_
  refine own_aloadN X hx hby jd_43_2__1 rfl rfl (pc' := 2) rfl ?_
  refine own_alen X hx hby hZ eT (n := n) V hn jd_43_2__2 (pc' := 3) rfl ?_
  refine own_callS X hx hby hZ (by exact hml) hown (own_w hw 193 rfl) (own_w hw 194 rfl) (own_w hw 6 rfl) (own_w hw 195 rfl) (by decide) eT 0 (by decide) (by decide) (by decide) (by decide) (argsL := [(.int i), (.int n)]) (rest := []) (lenOf pd__II_V rfl) rfl (rmSc l Z a0 hw i n wf h0 hwf hwc Sf hi0 hi1) (Nat.le_of_eq rfl) jd_43_2__3 (pc' := 6) rfl ?_
  intro v1 T1 L1 X1 hQ1
  obtain ⟨rfl, rfl, e1⟩ := hQ1
  rw [List.append_nil] at X1
  replace e1 : T1.heap = h0 := e1
  show GoP p e below Φ (T1.setTop (mkF m 6 #[.val (.ref b), .val (.int i)] []))
  refine own_aloadN X1 hx hby jd_43_2__6 rfl rfl (pc' := 7) rfl ?_
  refine own_iloadN X1 hx hby jd_43_2__7 rfl (pc' := 8) rfl ?_
  refine own_baload X1 hx hby hZ e1 V hi0 (v := (.int x)) hv jd_43_2__8 (pc' := 9) rfl ?_
  refine own_sipush X1 hx hby jd_43_2__9 (v := (255 : Int32)) rfl (pc' := 12) rfl ?_
  refine own_iand X1 hx hby jd_43_2__12 (pc' := 13) rfl ?_
  refine own_i2c X1 hx hby jd_43_2__13 (pc' := 14) rfl ?_
  exact own_retN X1 hx hby fin hret (by simp) (own_narC _) jd_43_2__14 (by decide) (by decide) ⟨congrArg (fun q => some (Value.int q)) hyx, rfl, e1⟩
theorem ef_rmIL (m : MethodId) (x0 : Addr) : entryFrame m #[(.ref x0)] 1 = mkF m 0 #[.val (.ref x0)] [] := by first | (simp [entryFrame, mkF, argsToLocals, Value.category]; done) | rfl
theorem jd_42_154__0 : decode jdk_42_method_154_code 0 = .ok (.getstatic 38, 3) := by decide +kernel
theorem jd_42_154__3 : decode jdk_42_method_154_code 3 = .ok (.ifCond .eq 14, 3) := by decide +kernel
theorem jd_42_154__6 : decode jdk_42_method_154_code 6 = .ok (.aload_n 0, 1) := by decide +kernel
theorem jd_42_154__7 : decode jdk_42_method_154_code 7 = .ok (.getfield 15, 3) := by decide +kernel
theorem jd_42_154__10 : decode jdk_42_method_154_code 10 = .ok (.ifCond .ne 7, 3) := by decide +kernel
theorem jd_42_154__13 : decode jdk_42_method_154_code 13 = .ok (.iconst 1, 1) := by decide +kernel
theorem jd_42_154__14 : decode jdk_42_method_154_code 14 = .ok (.goto 4, 3) := by decide +kernel
theorem jd_42_154__18 : decode jdk_42_method_154_code 18 = .ok (.ireturn, 1) := by decide +kernel
set_option maxRecDepth 65536 in
set_option maxHeartbeats 40000000 in
theorem rmIL (l : Launch) (Z : State) (a0 : Array Value) (hw : ∀ d ∈ tables_1, d.before a0 Z = true) (a : Addr) (cs : Int32) (h0 : Heap) (hcs : ¬ cs = (0 : Int32)) (Scs : Sta Z h0 "java/lang/String" "COMPACT_STRINGS" "Z" (.int cs))(F : Fld Z h0 a "java/lang/String" "coder" "B" (.int (0 : Int32))) : Con l Z (⟨"java/lang/String", "isLatin1", "()Z"⟩ : MethodName) jdk_42_method_154_code 1 (some .boolean) [] ({ frames := 0, cells := 0, slots := 0, locals := 0 } : Room) #[(.ref a)] h0 (fun v h L => v = some (.int (1 : Int32)) ∧ L = [] ∧ h = h0) := by
  refine Con.of (plainFor_of_name pn_java_lang_String) ?_
  intro p e s m below meth c T X hx hby hml hown hnm hret eT hZ hsh Φ fin
  replace hown : s.vm.findClass "java/lang/String" = some m.cls := hown
  replace hml : 1 = c.maxLocals := hml.symm
  refine own_step (fun tq kq => castTop (ef_rmIL m a) kq) ?_
  refine own_getS X hx hby hZ hown (host := "") (Or.inl (own_w hw 21 rfl)) Via.refl eT Scs jd_42_154__0 (pc' := 3) rfl ?_
  intro T1 X1 e1
  refine own_ifN X1 hx hby jd_42_154__3 ((if0 _ _).trans (feq hcs).1) (pc' := 6) rfl ?_
  refine own_aloadN X1 hx hby jd_42_154__6 rfl rfl (pc' := 7) rfl ?_
  refine own_getF X1 hx hby hZ hown (host := "") (Or.inl (own_w hw 33 rfl)) Via.refl e1 F jd_42_154__7 (pc' := 10) rfl ?_
  intro T2 X2 e2
  refine own_ifN X2 hx hby jd_42_154__10 ((if0 _ _).trans (teq (by decide)).2) (pc' := 13) rfl ?_
  refine own_iconst X2 hx hby jd_42_154__13 (v := (1 : Int32)) rfl (pc' := 14) rfl ?_
  refine own_goto X2 hx hby jd_42_154__14 (by decide) (pc' := 18) (by decide) ?_
  exact own_retN X2 hx hby fin hret (by simp) rfl jd_42_154__18 (by decide) (by decide) ⟨rfl, rfl, e2⟩
theorem ef_rmCA (m : MethodId) (x0 : Addr) (x1 : Int32) : entryFrame m #[(.ref x0), (.int x1)] 2 = mkF m 0 #[.val (.ref x0), .val (.int x1)] [] := by first | (simp [entryFrame, mkF, argsToLocals, Value.category]; done) | rfl
theorem jd_42_56__0 : decode jdk_42_method_56_code 0 = .ok (.aload_n 0, 1) := by decide +kernel
theorem jd_42_56__1 : decode jdk_42_method_56_code 1 = .ok (.invokevirtual 492, 3) := by decide +kernel
theorem jd_42_56__4 : decode jdk_42_method_56_code 4 = .ok (.ifCond .eq 12, 3) := by decide +kernel
theorem jd_42_56__7 : decode jdk_42_method_56_code 7 = .ok (.aload_n 0, 1) := by decide +kernel
theorem jd_42_56__8 : decode jdk_42_method_56_code 8 = .ok (.getfield 9, 3) := by decide +kernel
theorem jd_42_56__11 : decode jdk_42_method_56_code 11 = .ok (.iload_n 1, 1) := by decide +kernel
theorem jd_42_56__12 : decode jdk_42_method_56_code 12 = .ok (.invokestatic 495, 3) := by decide +kernel
theorem pd___BI_C : parseMethodDescriptor "([BI)C" = some ⟨[(.array .byte), .int], some .char⟩ := by decide +kernel
theorem jd_42_56__15 : decode jdk_42_method_56_code 15 = .ok (.ireturn, 1) := by decide +kernel
set_option maxRecDepth 65536 in
set_option maxHeartbeats 40000000 in
theorem rmCA (l : Launch) (Z : State) (a0 : Array Value) (hw : ∀ d ∈ tables_1, d.before a0 Z = true) (a b : Addr) (cs i n x yx : Int32) (vs : List Value) (wf : Value) (h0 : Heap) (hcs : ¬ cs = (0 : Int32)) (Scs : Sta Z h0 "java/lang/String" "COMPACT_STRINGS" "Z" (.int cs))(hwf : wf.isRef = true) (hwc : wf.category = 1)(Sf : Sta Z h0 "jdk/internal/util/Preconditions" "SIOOBE_FORMATTER" "Ljava/util/function/BiFunction;" wf) (E : Exa Z h0 a "java/lang/String") (F : Fld Z h0 a "java/lang/String" "coder" "B" (.int (0 : Int32))) (G : Fld Z h0 a "java/lang/String" "value" "[B" (.ref b)) (V : AV Z h0 b .byte vs)(hn : Int32.ofNat vs.length = n) (hv : vs[i.toNatClampNeg]? = some (.int x)) (hi0 : ¬ i < (0 : Int32)) (hi1 : i < n) (hyx : own_uc x = yx) (hnC : narrow .char (.int yx) = .int yx) : Con l Z (⟨"java/lang/String", "charAt", "(I)C"⟩ : MethodName) jdk_42_method_56_code 2 (some .char) [] ({ frames := 3, cells := 0, slots := 0, locals := 60 } : Room) #[(.ref a), (.int i)] h0 (fun v h L => v = some (.int yx) ∧ L = [] ∧ h = h0) := by
  refine Con.of (plainFor_of_name pn_java_lang_String) ?_
  intro p e s m below meth c T X hx hby hml hown hnm hret eT hZ hsh Φ fin
  replace hown : s.vm.findClass "java/lang/String" = some m.cls := hown
  replace hml : 2 = c.maxLocals := hml.symm
  refine own_step (fun tq kq => castTop (ef_rmCA m a i) kq) ?_
  refine own_aloadN X hx hby jd_42_56__0 rfl rfl (pc' := 1) rfl ?_
  refine own_callV X hx hby hZ (by exact hml) hown (own_w hw 184 rfl) (own_w hw 185 rfl) (own_w hw 187 rfl) (own_w hw 186 rfl) (own_w hw 6 rfl) (own_w hw 188 rfl) (by decide) eT 0 (by decide) (by decide) (by decide) (by decide) (argsL := []) (rest := []) (lenOf pd___Z rfl) rfl (Nat.le_of_eq rfl) E (rmIL l Z a0 hw a cs h0 hcs Scs F) jd_42_56__1 (pc' := 4) rfl ?_
  intro v1 T1 L1 X1 hQ1
  obtain ⟨rfl, rfl, e1⟩ := hQ1
  rw [List.append_nil] at X1
  replace e1 : T1.heap = h0 := e1
  show GoP p e below Φ (T1.setTop (mkF m 4 #[.val (.ref a), .val (.int i)] [(.int (1 : Int32))]))
  refine own_ifN X1 hx hby jd_42_56__4 ((if0 _ _).trans (feq (by decide)).1) (pc' := 7) rfl ?_
  refine own_aloadN X1 hx hby jd_42_56__7 rfl rfl (pc' := 8) rfl ?_
  refine own_getF X1 hx hby hZ hown (host := "") (Or.inl (own_w hw 35 rfl)) Via.refl e1 G jd_42_56__8 (pc' := 11) rfl ?_
  intro T2 X2 e2
  refine own_iloadN X2 hx hby jd_42_56__11 rfl (pc' := 12) rfl ?_
  refine own_callS X2 hx hby hZ (by exact hml) hown (own_w hw 189 rfl) (own_w hw 190 rfl) (own_w hw 191 rfl) (own_w hw 192 rfl) (by decide) e2 0 (by decide) (by decide) (by decide) (by decide) (argsL := [(.ref b), (.int i)]) (rest := []) (lenOf pd___BI_C rfl) rfl (rmLC l Z a0 hw b i n x yx vs wf h0 hwf hwc Sf V hn hv hi0 hi1 hyx) (Nat.le_of_eq rfl) jd_42_56__12 (pc' := 15) rfl ?_
  intro v3 T3 L3 X3 hQ3
  obtain ⟨rfl, rfl, e3⟩ := hQ3
  rw [List.append_nil] at X3
  replace e3 : T3.heap = h0 := e3
  show GoP p e below Φ (T3.setTop (mkF m 15 #[.val (.ref a), .val (.int i)] [(.int yx)]))
  exact own_retN X3 hx hby fin hret (by simp) hnC jd_42_56__15 (by decide) (by decide) ⟨rfl, rfl, e3⟩
theorem ef_rmC5_1 (m : MethodId) (x0 : Addr) (x1 : Int32) (x2 : Addr) (x3 : Int32) (x4 : Int32) : entryFrame m #[(.ref x0), (.int x1), (.ref x2), (.int x3), (.int x4)] 7 = mkF m 0 #[.val (.ref x0), .val (.int x1), .val (.ref x2), .val (.int x3), .val (.int x4), .unset, .unset] [] := by first | (simp [entryFrame, mkF, argsToLocals, Value.category]; done) | rfl
theorem pn_java_lang_StringUTF16 : plainName "java/lang/StringUTF16" = true := by first | (simp [plainName, overriddenIn]; done) | decide +kernel
theorem jd_52_21__0 : decode jdk_52_method_21_code 0 = .ok (.iconst 0, 1) := by decide +kernel
theorem jd_52_21__1 : decode jdk_52_method_21_code 1 = .ok (.istore 5, 2) := by decide +kernel
theorem jd_52_21__3 : decode jdk_52_method_21_code 3 = .ok (.iload 5, 2) := by decide +kernel
theorem jd_52_21__5 : decode jdk_52_method_21_code 5 = .ok (.iload 4, 2) := by decide +kernel
theorem jd_52_21__7 : decode jdk_52_method_21_code 7 = .ok (.if_icmp .ge 37, 3) := by decide +kernel
theorem jd_52_21__10 : decode jdk_52_method_21_code 10 = .ok (.aload_n 0, 1) := by decide +kernel
theorem jd_52_21__11 : decode jdk_52_method_21_code 11 = .ok (.iload_n 1, 1) := by decide +kernel
theorem jd_52_21__12 : decode jdk_52_method_21_code 12 = .ok (.caload, 1) := by decide +kernel
theorem jd_52_21__13 : decode jdk_52_method_21_code 13 = .ok (.istore 6, 2) := by decide +kernel
theorem jd_52_21__15 : decode jdk_52_method_21_code 15 = .ok (.iload 6, 2) := by decide +kernel
theorem jd_52_21__17 : decode jdk_52_method_21_code 17 = .ok (.sipush 255, 3) := by decide +kernel
theorem jd_52_21__20 : decode jdk_52_method_21_code 20 = .ok (.if_icmp .le 6, 3) := by decide +kernel
theorem jd_52_21__26 : decode jdk_52_method_21_code 26 = .ok (.aload_n 2, 1) := by decide +kernel
theorem jd_52_21__27 : decode jdk_52_method_21_code 27 = .ok (.iload_n 3, 1) := by decide +kernel
theorem jd_52_21__28 : decode jdk_52_method_21_code 28 = .ok (.iload 6, 2) := by decide +kernel
theorem jd_52_21__30 : decode jdk_52_method_21_code 30 = .ok (.i2b, 1) := by decide +kernel
theorem jd_52_21__31 : decode jdk_52_method_21_code 31 = .ok (.bastore, 1) := by decide +kernel
theorem jd_52_21__32 : decode jdk_52_method_21_code 32 = .ok (.iinc 1 1, 3) := by decide +kernel
theorem jd_52_21__35 : decode jdk_52_method_21_code 35 = .ok (.iinc 3 1, 3) := by decide +kernel
theorem jd_52_21__38 : decode jdk_52_method_21_code 38 = .ok (.iinc 5 1, 3) := by decide +kernel
theorem jd_52_21__41 : decode jdk_52_method_21_code 41 = .ok (.goto (-38), 3) := by decide +kernel
theorem jd_52_21__44 : decode jdk_52_method_21_code 44 = .ok (.iload 4, 2) := by decide +kernel
theorem jd_52_21__46 : decode jdk_52_method_21_code 46 = .ok (.ireturn, 1) := by decide +kernel
set_option maxRecDepth 65536 in
set_option maxHeartbeats 40000000 in
theorem rmC5_1 (l : Launch) (Z : State) (a0 : Array Value) (hw : ∀ d ∈ tables_1, d.before a0 Z = true) (a b : Addr) (x0 : Int32) (n0 : Nat) (h0 : Heap) (hx0 : ¬ (255 : Int32) < x0) (n0_b : n0 ≤ b) (ne_a_b : a ≠ b) (Va : AV Z h0 a .char [(.int x0)]) (Vb : AV Z h0 b .byte [(.int (0 : Int32))]) : Con l Z (⟨"java/lang/StringUTF16", "compress", "([CI[BII)I"⟩ : MethodName) jdk_52_method_21_code 7 (some .int) [] ({ frames := 0, cells := 0, slots := 0, locals := 0 } : Room) #[(.ref a), (.int (0 : Int32)), (.ref b), (.int (0 : Int32)), (.int (1 : Int32))] h0 (fun v h L => v = some (.int (1 : Int32)) ∧ Fr n0 L ∧ Keep h0 h [b] ∧ AV Z h b .byte [(.int (nar .byte (x0.toInt8.toInt32)))]) := by
  refine Con.of (plainFor_of_name pn_java_lang_StringUTF16) ?_
  intro p e s m below meth c T X hx hby hml hown hnm hret eT hZ hsh Φ fin
  replace hown : s.vm.findClass "java/lang/StringUTF16" = some m.cls := hown
  replace hml : 7 = c.maxLocals := hml.symm
  refine own_step (fun tq kq => castTop (ef_rmC5_1 m a (0 : Int32) b (0 : Int32) (1 : Int32)) kq) ?_
  have N0 := Fr.nil n0
  have K0 : Keep h0 h0 [b] := Keep.refl h0 [b]
  refine own_iconst X hx hby jd_52_21__0 (v := (0 : Int32)) rfl (pc' := 1) rfl ?_
  refine own_istore X hx hby jd_52_21__1  (Ls' := #[.val (.ref a), .val (.int (0 : Int32)), .val (.ref b), .val (.int (0 : Int32)), .val (.int (1 : Int32)), .val (.int (0 : Int32)), .unset]) rfl (pc' := 3) rfl ?_
  refine own_iload X hx hby jd_52_21__3 rfl (pc' := 5) rfl ?_
  refine own_iload X hx hby jd_52_21__5 rfl (pc' := 7) rfl ?_
  refine own_icmpN X hx hby jd_52_21__7 (tlt (by decide)).2.1 (pc' := 10) rfl ?_
  refine own_aloadN X hx hby jd_52_21__10 rfl rfl (pc' := 11) rfl ?_
  refine own_iloadN X hx hby jd_52_21__11 rfl (pc' := 12) rfl ?_
  refine own_caload X hx hby hZ eT Va (by decide) (v := (.int x0)) rfl jd_52_21__12 (pc' := 13) rfl ?_
  refine own_istore X hx hby jd_52_21__13  (Ls' := #[.val (.ref a), .val (.int (0 : Int32)), .val (.ref b), .val (.int (0 : Int32)), .val (.int (1 : Int32)), .val (.int (0 : Int32)), .val (.int x0)]) rfl (pc' := 15) rfl ?_
  refine own_iload X hx hby jd_52_21__15 rfl (pc' := 17) rfl ?_
  refine own_sipush X hx hby jd_52_21__17 (v := (255 : Int32)) rfl (pc' := 20) rfl ?_
  refine own_icmpY X hx hby jd_52_21__20 (flt hx0).2.2.2 (by decide) (pc' := 26) (by decide) ?_
  refine own_aloadN X hx hby jd_52_21__26 rfl rfl (pc' := 27) rfl ?_
  refine own_iloadN X hx hby jd_52_21__27 rfl (pc' := 28) rfl ?_
  refine own_iload X hx hby jd_52_21__28 rfl (pc' := 30) rfl ?_
  refine own_i2b X hx hby jd_52_21__30 (pc' := 31) rfl ?_
  refine own_bastoreB X hx hby hZ eT Vb (by decide) (Nat.le_of_ble_eq_true rfl) jd_52_21__31 (pc' := 32) rfl ?_
  intro T1 h1 X1 e1 W1 V1
  replace V1 : AV Z h1 b .byte [(.int (nar .byte (x0.toInt8.toInt32)))] := V1
  have V2_a := Va.other W1 ne_a_b
  have N1 := Fr.snoc X1 N0 n0_b
  have K1 : Keep h0 h1 [b] := K0.wr W1 (Or.inl (List.mem_of_getElem? (i := 0) rfl))
  refine own_iinc X1 hx hby jd_52_21__32 rfl (v := (1 : Int32)) rfl (Ls' := #[.val (.ref a), .val (.int (1 : Int32)), .val (.ref b), .val (.int (0 : Int32)), .val (.int (1 : Int32)), .val (.int (0 : Int32)), .val (.int x0)]) rfl (pc' := 35) rfl ?_
  refine own_iinc X1 hx hby jd_52_21__35 rfl (v := (1 : Int32)) rfl (Ls' := #[.val (.ref a), .val (.int (1 : Int32)), .val (.ref b), .val (.int (1 : Int32)), .val (.int (1 : Int32)), .val (.int (0 : Int32)), .val (.int x0)]) rfl (pc' := 38) rfl ?_
  refine own_iinc X1 hx hby jd_52_21__38 rfl (v := (1 : Int32)) rfl (Ls' := #[.val (.ref a), .val (.int (1 : Int32)), .val (.ref b), .val (.int (1 : Int32)), .val (.int (1 : Int32)), .val (.int (1 : Int32)), .val (.int x0)]) rfl (pc' := 41) rfl ?_
  refine own_goto X1 hx hby jd_52_21__41 (by decide) (pc' := 3) (by decide) ?_
  refine own_iload X1 hx hby jd_52_21__3 rfl (pc' := 5) rfl ?_
  refine own_iload X1 hx hby jd_52_21__5 rfl (pc' := 7) rfl ?_
  refine own_icmpY X1 hx hby jd_52_21__7 (flt (by decide)).2.1 (by decide) (pc' := 44) (by decide) ?_
  refine own_iload X1 hx hby jd_52_21__44 rfl (pc' := 46) rfl ?_
  exact own_retI X1 hx hby fin hret jd_52_21__46 (by decide) (by decide) (by rw [e1]; exact ⟨rfl, N1, K1, V1⟩)
theorem ef_rmC3_1 (m : MethodId) (x0 : Addr) (x1 : Int32) (x2 : Int32) : entryFrame m #[(.ref x0), (.int x1), (.int x2)] 6 = mkF m 0 #[.val (.ref x0), .val (.int x1), .val (.int x2), .unset, .unset, .unset] [] := by first | (simp [entryFrame, mkF, argsToLocals, Value.category]; done) | rfl
theorem jd_52_16__0 : decode jdk_52_method_16_code 0 = .ok (.iload_n 2, 1) := by decide +kernel
theorem jd_52_16__1 : decode jdk_52_method_16_code 1 = .ok (.newarray .byte, 2) := by decide +kernel
theorem jd_52_16__3 : decode jdk_52_method_16_code 3 = .ok (.astore_n 3, 1) := by decide +kernel
theorem jd_52_16__4 : decode jdk_52_method_16_code 4 = .ok (.aload_n 0, 1) := by decide +kernel
theorem jd_52_16__5 : decode jdk_52_method_16_code 5 = .ok (.iload_n 1, 1) := by decide +kernel
theorem jd_52_16__6 : decode jdk_52_method_16_code 6 = .ok (.aload_n 3, 1) := by decide +kernel
theorem jd_52_16__7 : decode jdk_52_method_16_code 7 = .ok (.iconst 0, 1) := by decide +kernel
theorem jd_52_16__8 : decode jdk_52_method_16_code 8 = .ok (.iload_n 2, 1) := by decide +kernel
theorem jd_52_16__9 : decode jdk_52_method_16_code 9 = .ok (.invokestatic 115, 3) := by decide +kernel
theorem pd___CI_BII_I : parseMethodDescriptor "([CI[BII)I" = some ⟨[(.array .char), .int, (.array .byte), .int, .int], some .int⟩ := by decide +kernel
theorem jd_52_16__12 : decode jdk_52_method_16_code 12 = .ok (.istore 4, 2) := by decide +kernel
theorem jd_52_16__14 : decode jdk_52_method_16_code 14 = .ok (.iload 4, 2) := by decide +kernel
theorem jd_52_16__16 : decode jdk_52_method_16_code 16 = .ok (.iload_n 2, 1) := by decide +kernel
theorem jd_52_16__17 : decode jdk_52_method_16_code 17 = .ok (.if_icmp .eq 40, 3) := by decide +kernel
theorem jd_52_16__57 : decode jdk_52_method_16_code 57 = .ok (.aload_n 3, 1) := by decide +kernel
theorem jd_52_16__58 : decode jdk_52_method_16_code 58 = .ok (.areturn, 1) := by decide +kernel
set_option maxRecDepth 65536 in
set_option maxHeartbeats 40000000 in
theorem rmC3_1 (l : Launch) (Z : State) (a0 : Array Value) (hw : ∀ d ∈ tables_1, d.before a0 Z = true) (a : Addr) (x0 : Int32) (n0 : Nat) (h0 : Heap) (hx0 : ¬ (255 : Int32) < x0) (Z0 : n0 ≤ h0.size) (Va : AV Z h0 a .char [(.int x0)]) : Con l Z (⟨"java/lang/StringUTF16", "compress", "([CII)[B"⟩ : MethodName) jdk_52_method_16_code 6 (some (.array .byte)) [] ({ frames := 1, cells := 1, slots := 1, locals := 20 } : Room) #[(.ref a), (.int (0 : Int32)), (.int (1 : Int32))] h0 (fun v h L => ∃ b : Addr, v = some (.ref b) ∧ Fr n0 L ∧ Keep h0 h [] ∧ h0.size ≤ b ∧ AV Z h b .byte [(.int (nar .byte (x0.toInt8.toInt32)))]) := by
  refine Con.of (plainFor_of_name pn_java_lang_StringUTF16) ?_
  intro p e s m below meth c T X hx hby hml hown hnm hret eT hZ hsh Φ fin
  replace hown : s.vm.findClass "java/lang/StringUTF16" = some m.cls := hown
  replace hml : 6 = c.maxLocals := hml.symm
  refine own_step (fun tq kq => castTop (ef_rmC3_1 m a (0 : Int32) (1 : Int32)) kq) ?_
  have N0 := Fr.nil n0
  have K0 : Keep h0 h0 [] := Keep.refl h0 []
  refine own_iloadN X hx hby jd_52_16__0 rfl (pc' := 1) rfl ?_
  obtain ⟨T1, h1, k1, X1, e1, E1, A1, st1⟩ := newP X hx hZ (own_w hw 26 rfl) eT (g := (mkF m 1 #[.val (.ref a), .val (.int (0 : Int32)), .val (.int (1 : Int32)), .unset, .unset, .unset] [(.int (1 : Int32))])) rfl (hb hby jd_52_16__1) rfl (by decide) (cap := 1) (by decide) (by decide) (by decide) (by decide)
  obtain ⟨b1, g1⟩ : ∃ z, z = h0.size := ⟨_, rfl⟩
  have ne_a_b1 : a ≠ b1 := Nat.ne_of_lt (g1 ▸ Va.lt)
  have V2_a := Va.ext E1
  have Z1 : n0 ≤ h1.size := Nat.le_trans Z0 E1.1
  have n0_b1 : n0 ≤ b1 := g1 ▸ Z0
  have sz_b1 : h0.size ≤ b1 := g1 ▸ K0.1
  have K1 : Keep h0 h1 [] := K0.ext E1
  rw [← g1] at A1 st1
  refine own_step st1 ?_
  have V1 : AV Z h1 b1 .byte [(.int (0 : Int32))] := AV.new A1 (by decide)
  show GoP p e below Φ (T1.setTop (mkF m 3 #[.val (.ref a), .val (.int (0 : Int32)), .val (.int (1 : Int32)), .unset, .unset, .unset] [(.ref b1)]))
  refine own_astoreN X1 hx hby jd_52_16__3 rfl (Ls' := #[.val (.ref a), .val (.int (0 : Int32)), .val (.int (1 : Int32)), .val (.ref b1), .unset, .unset]) rfl (pc' := 4) rfl ?_
  refine own_aloadN X1 hx hby jd_52_16__4 rfl rfl (pc' := 5) rfl ?_
  refine own_iloadN X1 hx hby jd_52_16__5 rfl (pc' := 6) rfl ?_
  refine own_aloadN X1 hx hby jd_52_16__6 rfl rfl (pc' := 7) rfl ?_
  refine own_iconst X1 hx hby jd_52_16__7 (v := (0 : Int32)) rfl (pc' := 8) rfl ?_
  refine own_iloadN X1 hx hby jd_52_16__8 rfl (pc' := 9) rfl ?_
  refine own_callS X1 hx hby hZ (by exact hml) hown (own_w hw 27 rfl) (own_w hw 28 rfl) (own_w hw 24 rfl) (own_w hw 29 rfl) (by decide) e1 0 (by decide) (by decide) (by decide) (by decide) (argsL := [(.ref a), (.int (0 : Int32)), (.ref b1), (.int (0 : Int32)), (.int (1 : Int32))]) (rest := []) (lenOf pd___CI_BII_I rfl) rfl (rmC5_1 l Z a0 hw a b1 x0 n0 h1 hx0 n0_b1 ne_a_b1 V2_a V1) (Nat.le_of_eq rfl) jd_52_16__9 (pc' := 12) rfl ?_
  intro v3 T3 L3 X3 hQ3
  obtain ⟨rfl, Nq3, K3, V3⟩ := hQ3
  have V4_a := V2_a.keep K3 (ninS ne_a_b1 nin0)
  have N3 := Fr.app N0 Nq3
  have Z3 : n0 ≤ T3.heap.size := Nat.le_trans Z1 K3.1
  have KK3 : Keep h0 T3.heap [] := K1.trans K3 (allS (Or.inr sz_b1) all0)
  show GoP p e below Φ (T3.setTop (mkF m 12 #[.val (.ref a), .val (.int (0 : Int32)), .val (.int (1 : Int32)), .val (.ref b1), .unset, .unset] [(.int (1 : Int32))]))
  refine own_istore X3 hx hby jd_52_16__12  (Ls' := #[.val (.ref a), .val (.int (0 : Int32)), .val (.int (1 : Int32)), .val (.ref b1), .val (.int (1 : Int32)), .unset]) rfl (pc' := 14) rfl ?_
  refine own_iload X3 hx hby jd_52_16__14 rfl (pc' := 16) rfl ?_
  refine own_iloadN X3 hx hby jd_52_16__16 rfl (pc' := 17) rfl ?_
  refine own_icmpY X3 hx hby jd_52_16__17 (teq (by decide)).1 (by decide) (pc' := 57) (by decide) ?_
  refine own_aloadN X3 hx hby jd_52_16__57 rfl rfl (pc' := 58) rfl ?_
  exact own_retA X3 hx hby fin hret rfl rfl rfl jd_52_16__58 (by decide) (by decide) ⟨b1, rfl, N3, KK3, sz_b1, V3⟩
theorem ef_rmCF_1 (m : MethodId) (x0 : Addr) (x1 : Int32) : entryFrame m #[(.ref x0), (.int x1)] 2 = mkF m 0 #[.val (.ref x0), .val (.int x1)] [] := by first | (simp [entryFrame, mkF, argsToLocals, Value.category]; done) | rfl
theorem jd_52_15__0 : decode jdk_52_method_15_code 0 = .ok (.iload_n 1, 1) := by decide +kernel
theorem jd_52_15__1 : decode jdk_52_method_15_code 1 = .ok (.aload_n 0, 1) := by decide +kernel
theorem jd_52_15__2 : decode jdk_52_method_15_code 2 = .ok (.arraylength, 1) := by decide +kernel
theorem jd_52_15__3 : decode jdk_52_method_15_code 3 = .ok (.isub, 1) := by decide +kernel
theorem jd_52_15__4 : decode jdk_52_method_15_code 4 = .ok (.bipush 31, 2) := by decide +kernel
theorem jd_52_15__6 : decode jdk_52_method_15_code 6 = .ok (.iushr, 1) := by decide +kernel
theorem jd_52_15__7 : decode jdk_52_method_15_code 7 = .ok (.i2b, 1) := by decide +kernel
theorem jd_52_15__8 : decode jdk_52_method_15_code 8 = .ok (.ireturn, 1) := by decide +kernel
set_option maxRecDepth 65536 in
set_option maxHeartbeats 40000000 in
theorem rmCF_1 (l : Launch) (Z : State) (a0 : Array Value) (hw : ∀ d ∈ tables_1, d.before a0 Z = true) (b : Addr) (x0 : Int32) (h0 : Heap) (V : AV Z h0 b .byte [(.int x0)]) : Con l Z (⟨"java/lang/StringUTF16", "coderFromArrayLen", "([BI)B"⟩ : MethodName) jdk_52_method_15_code 2 (some .byte) [] ({ frames := 0, cells := 0, slots := 0, locals := 0 } : Room) #[(.ref b), (.int (1 : Int32))] h0 (fun v h L => v = some (.int (0 : Int32)) ∧ L = [] ∧ h = h0) := by
  refine Con.of (plainFor_of_name pn_java_lang_StringUTF16) ?_
  intro p e s m below meth c T X hx hby hml hown hnm hret eT hZ hsh Φ fin
  replace hown : s.vm.findClass "java/lang/StringUTF16" = some m.cls := hown
  replace hml : 2 = c.maxLocals := hml.symm
  refine own_step (fun tq kq => castTop (ef_rmCF_1 m b (1 : Int32)) kq) ?_
  refine own_iloadN X hx hby jd_52_15__0 rfl (pc' := 1) rfl ?_
  refine own_aloadN X hx hby jd_52_15__1 rfl rfl (pc' := 2) rfl ?_
  refine own_alen X hx hby hZ eT (n := (1 : Int32)) V rfl jd_52_15__2 (pc' := 3) rfl ?_
  refine own_isub X hx hby jd_52_15__3 (pc' := 4) rfl ?_
  show GoP p e below Φ (T.setTop (mkF m 4 #[.val (.ref b), .val (.int (1 : Int32))] [(.int (0 : Int32))]))
  refine own_bipush X hx hby jd_52_15__4 (v := (31 : Int32)) rfl (pc' := 6) rfl ?_
  refine own_iushr X hx hby jd_52_15__6 (pc' := 7) rfl ?_
  show GoP p e below Φ (T.setTop (mkF m 7 #[.val (.ref b), .val (.int (1 : Int32))] [(.int (0 : Int32))]))
  refine own_i2b X hx hby jd_52_15__7 (pc' := 8) rfl ?_
  show GoP p e below Φ (T.setTop (mkF m 8 #[.val (.ref b), .val (.int (1 : Int32))] [(.int (0 : Int32))]))
  exact own_retN X hx hby fin hret (by simp) rfl jd_52_15__8 (by decide) (by decide) ⟨rfl, rfl, eT⟩
theorem ef_rmI5_1 (m : MethodId) (x0 : Addr) (x1 : Addr) (x2 : Int32) (x3 : Int32) : entryFrame m #[(.ref x0), (.ref x1), (.int x2), (.int x3), .null] 6 = mkF m 0 #[.val (.ref x0), .val (.ref x1), .val (.int x2), .val (.int x3), .val .null, .unset] [] := by first | (simp [entryFrame, mkF, argsToLocals, Value.category]; done) | rfl
theorem jd_42_149__0 : decode jdk_42_method_149_code 0 = .ok (.aload_n 0, 1) := by decide +kernel
theorem jd_42_149__1 : decode jdk_42_method_149_code 1 = .ok (.invokespecial 1, 3) := by decide +kernel
theorem jd_42_149__4 : decode jdk_42_method_149_code 4 = .ok (.iload_n 3, 1) := by decide +kernel
theorem jd_42_149__5 : decode jdk_42_method_149_code 5 = .ok (.ifCond .ne 22, 3) := by decide +kernel
theorem jd_42_149__27 : decode jdk_42_method_149_code 27 = .ok (.getstatic 38, 3) := by decide +kernel
theorem jd_42_149__30 : decode jdk_42_method_149_code 30 = .ok (.ifCond .eq 28, 3) := by decide +kernel
theorem jd_42_149__33 : decode jdk_42_method_149_code 33 = .ok (.aload_n 1, 1) := by decide +kernel
theorem jd_42_149__34 : decode jdk_42_method_149_code 34 = .ok (.iload_n 2, 1) := by decide +kernel
theorem jd_42_149__35 : decode jdk_42_method_149_code 35 = .ok (.iload_n 3, 1) := by decide +kernel
theorem jd_42_149__36 : decode jdk_42_method_149_code 36 = .ok (.invokestatic 177, 3) := by decide +kernel
theorem pd___CII__B : parseMethodDescriptor "([CII)[B" = some ⟨[(.array .char), .int, .int], some (.array .byte)⟩ := by decide +kernel
theorem jd_42_149__39 : decode jdk_42_method_149_code 39 = .ok (.astore 5, 2) := by decide +kernel
theorem jd_42_149__41 : decode jdk_42_method_149_code 41 = .ok (.aload_n 0, 1) := by decide +kernel
theorem jd_42_149__42 : decode jdk_42_method_149_code 42 = .ok (.aload 5, 2) := by decide +kernel
theorem jd_42_149__44 : decode jdk_42_method_149_code 44 = .ok (.iload_n 3, 1) := by decide +kernel
theorem jd_42_149__45 : decode jdk_42_method_149_code 45 = .ok (.invokestatic 47, 3) := by decide +kernel
theorem pd___BI_B : parseMethodDescriptor "([BI)B" = some ⟨[(.array .byte), .int], some .byte⟩ := by decide +kernel
theorem jd_42_149__48 : decode jdk_42_method_149_code 48 = .ok (.putfield 15, 3) := by decide +kernel
theorem jd_42_149__51 : decode jdk_42_method_149_code 51 = .ok (.aload_n 0, 1) := by decide +kernel
theorem jd_42_149__52 : decode jdk_42_method_149_code 52 = .ok (.aload 5, 2) := by decide +kernel
theorem jd_42_149__54 : decode jdk_42_method_149_code 54 = .ok (.putfield 9, 3) := by decide +kernel
theorem jd_42_149__57 : decode jdk_42_method_149_code 57 = .ok (.return_, 1) := by decide +kernel
set_option maxRecDepth 65536 in
set_option maxHeartbeats 40000000 in
theorem rmI5_1 (l : Launch) (Z : State) (a0 : Array Value) (hw : ∀ d ∈ tables_1, d.before a0 Z = true) (a ca : Addr) (cs : Int32) (x0 : Int32) (n0 : Nat) (h0 : Heap) (hcs : ¬ cs = (0 : Int32)) (hx0 : ¬ (255 : Int32) < x0) (n0_a : n0 ≤ a) (Z0 : n0 ≤ h0.size) (ne_a_ca : a ≠ ca) (Scs : Sta Z h0 "java/lang/String" "COMPACT_STRINGS" "Z" (.int cs)) (E : Exa Z h0 a "java/lang/String") (F : Fld Z h0 a "java/lang/String" "coder" "B" (.int (0 : Int32))) (G : Fld Z h0 a "java/lang/String" "value" "[B" .null) (Vc : AV Z h0 ca .char [(.int x0)]) : Con l Z (⟨"java/lang/String", "<init>", "([CIILjava/lang/Void;)V"⟩ : MethodName) jdk_42_method_149_code 6 none [] ({ frames := 2, cells := 1, slots := 1, locals := 40 } : Room) #[(.ref a), (.ref ca), (.int (0 : Int32)), (.int (1 : Int32)), .null] h0 (fun v h L => v = none ∧ Fr n0 L ∧ Keep h0 h [a] ∧ ∃ b : Addr, h0.size ≤ b ∧ Exa Z h a "java/lang/String" ∧ Fld Z h a "java/lang/String" "coder" "B" (.int (0 : Int32)) ∧ Fld Z h a "java/lang/String" "value" "[B" (.ref b) ∧ AV Z h b .byte [(.int (nar .byte (x0.toInt8.toInt32)))]) := by
  refine Con.of (plainFor_of_name pn_java_lang_String) ?_
  intro p e s m below meth c T X hx hby hml hown hnm hret eT hZ hsh Φ fin
  replace hown : s.vm.findClass "java/lang/String" = some m.cls := hown
  replace hml : 6 = c.maxLocals := hml.symm
  refine own_step (fun tq kq => castTop (ef_rmI5_1 m a ca (0 : Int32) (1 : Int32)) kq) ?_
  have N0 := Fr.nil n0
  have K0 : Keep h0 h0 [a] := Keep.refl h0 [a]
  refine own_aloadN X hx hby jd_42_149__0 rfl rfl (pc' := 1) rfl ?_
  obtain ⟨T1, X1, e1, st1⟩ := initO X hx hZ hown (own_w hw 18 rfl) (own_w hw 19 rfl) (own_w hw 20 rfl) eT (g := (mkF m 1 #[.val (.ref a), .val (.ref ca), .val (.int (0 : Int32)), .val (.int (1 : Int32)), .val .null, .unset] [(.ref a)])) rfl hml rfl (hb hby jd_42_149__1) (by decide) (W := 0) (by show 2 * 0 + _ ≤ _; exact Nat.le_of_eq rfl) (by decide)
  refine own_step st1 ?_
  show GoP p e below Φ (T1.setTop (mkF m 4 #[.val (.ref a), .val (.ref ca), .val (.int (0 : Int32)), .val (.int (1 : Int32)), .val .null, .unset] []))
  refine own_iloadN X1 hx hby jd_42_149__4 rfl (pc' := 5) rfl ?_
  refine own_ifY X1 hx hby jd_42_149__5 ((if0 _ _).trans (feq (by decide)).2) (by decide) (pc' := 27) (by decide) ?_
  refine own_getS X1 hx hby hZ hown (host := "") (Or.inl (own_w hw 21 rfl)) Via.refl e1 Scs jd_42_149__27 (pc' := 30) rfl ?_
  intro T2 X2 e2
  refine own_ifN X2 hx hby jd_42_149__30 ((if0 _ _).trans (feq hcs).1) (pc' := 33) rfl ?_
  refine own_aloadN X2 hx hby jd_42_149__33 rfl rfl (pc' := 34) rfl ?_
  refine own_iloadN X2 hx hby jd_42_149__34 rfl (pc' := 35) rfl ?_
  refine own_iloadN X2 hx hby jd_42_149__35 rfl (pc' := 36) rfl ?_
  refine own_callS X2 hx hby hZ (by exact hml) hown (own_w hw 22 rfl) (own_w hw 23 rfl) (own_w hw 24 rfl) (own_w hw 25 rfl) (by decide) e2 0 (by decide) (by decide) (by decide) (by decide) (argsL := [(.ref ca), (.int (0 : Int32)), (.int (1 : Int32))]) (rest := []) (lenOf pd___CII__B rfl) rfl (rmC3_1 l Z a0 hw ca x0 n0 h0 hx0 Z0 Vc) (Nat.le_of_eq rfl) jd_42_149__36 (pc' := 39) rfl ?_
  intro v3 T3 L3 X3 hQ3
  obtain ⟨bb3, rfl, Nq3, K3, sb3, V3⟩ := hQ3
  have ne_a_bb3 : a ≠ bb3 := Nat.ne_of_lt (Nat.lt_of_lt_of_le E.lt sb3)
  have szb : h0.size ≤ bb3 := Nat.le_trans K0.1 sb3
  have E4_a := E.keep K3
  have F5_coder := F.keep K3 nin0
  have F6_value := G.keep K3 nin0
  have N3 := Fr.app N0 Nq3
  have Z3 : n0 ≤ T3.heap.size := Nat.le_trans Z0 K3.1
  have KK3 : Keep h0 T3.heap [a] := K0.trans K3 all0
  show GoP p e below Φ (T3.setTop (mkF m 39 #[.val (.ref a), .val (.ref ca), .val (.int (0 : Int32)), .val (.int (1 : Int32)), .val .null, .unset] [(.ref bb3)]))
  refine own_astore X3 hx hby jd_42_149__39 rfl (Ls' := #[.val (.ref a), .val (.ref ca), .val (.int (0 : Int32)), .val (.int (1 : Int32)), .val .null, .val (.ref bb3)]) rfl (pc' := 41) rfl ?_
  refine own_aloadN X3 hx hby jd_42_149__41 rfl rfl (pc' := 42) rfl ?_
  refine own_aload X3 hx hby jd_42_149__42 rfl rfl (pc' := 44) rfl ?_
  refine own_iloadN X3 hx hby jd_42_149__44 rfl (pc' := 45) rfl ?_
  refine own_callS X3 hx hby hZ (by exact hml) hown (own_w hw 30 rfl) (own_w hw 31 rfl) (own_w hw 24 rfl) (own_w hw 32 rfl) (by decide) rfl 1 (by decide) (by decide) (by decide) (by decide) (argsL := [(.ref bb3), (.int (1 : Int32))]) (rest := [(.ref a)]) (lenOf pd___BI_B rfl) rfl (rmCF_1 l Z a0 hw bb3 (nar .byte (x0.toInt8.toInt32)) T3.heap V3) (Nat.le_of_eq rfl) jd_42_149__45 (pc' := 48) rfl ?_
  intro v7 T7 L7 X7 hQ7
  obtain ⟨rfl, rfl, e7⟩ := hQ7
  rw [List.append_nil] at X7
  replace e7 : T7.heap = T3.heap := e7
  show GoP p e below Φ (T7.setTop (mkF m 48 #[.val (.ref a), .val (.ref ca), .val (.int (0 : Int32)), .val (.int (1 : Int32)), .val .null, .val (.ref bb3)] [(.int (0 : Int32)), (.ref a)]))
  obtain ⟨T8, h8, X8, e8, W8, st8⟩ := putFN X7 hx hZ hown (own_w hw 33 rfl) Via.refl e7 F5_coder E4_a (Or.inr ⟨(own_w hw 34 rfl), rfl, hnm⟩) (own_w hw 5 rfl) (ty := .byte) (v' := (.int (0 : Int32))) (by decide) rfl (by decide) (g := (mkF m 48 #[.val (.ref a), .val (.ref ca), .val (.int (0 : Int32)), .val (.int (1 : Int32)), .val .null, .val (.ref bb3)] [(.int (0 : Int32)), (.ref a)])) rfl rfl (hb hby jd_42_149__48)
  refine own_step st8 ?_
  have E9_a := E4_a.wr W8
  have F10_coder := F5_coder.same W8
  have F11_value := F6_value.other W8 (Or.inr (slot_ne (Or.inr (own_w hw 36 rfl)) (Or.inr (own_w hw 34 rfl)) (by decide) (t := (.array .byte)) (t' := .byte) (by decide) (by decide)))
  have V12_bb3 := V3.other W8 (Ne.symm ne_a_bb3)
  have Z8 : n0 ≤ h8.size := by rw [W8.size]; exact Z3
  have N8 := Fr.snoc X8 N3 n0_a
  have K8 : Keep h0 h8 [a] := KK3.wr W8 (Or.inl (List.mem_of_getElem? (i := 0) rfl))
  show GoP p e below Φ (T8.setTop (mkF m 51 #[.val (.ref a), .val (.ref ca), .val (.int (0 : Int32)), .val (.int (1 : Int32)), .val .null, .val (.ref bb3)] []))
  refine own_aloadN X8 hx hby jd_42_149__51 rfl rfl (pc' := 52) rfl ?_
  refine own_aload X8 hx hby jd_42_149__52 rfl rfl (pc' := 54) rfl ?_
  refine own_putF X8 hx hby hZ hown (host := "") (Or.inl (own_w hw 35 rfl)) Via.refl e8 F11_value E9_a (Or.inr ⟨(own_w hw 36 rfl), rfl, hnm⟩) (own_w hw 5 rfl) (ty := (.array .byte)) (by decide) rfl rfl jd_42_149__54 (pc' := 57) rfl ?_
  intro T13 h13 X13 e13 W13
  have E14_a := E9_a.wr W13
  have F15_coder := F10_coder.other W13 (Or.inr (slot_ne (Or.inr (own_w hw 34 rfl)) (Or.inr (own_w hw 36 rfl)) (by decide) (t := .byte) (t' := (.array .byte)) (by decide) (by decide)))
  have F16_value := F11_value.same W13
  have V17_bb3 := V12_bb3.other W13 (Ne.symm ne_a_bb3)
  have Z13 : n0 ≤ h13.size := by rw [W13.size]; exact Z8
  have N13 := Fr.snoc X13 N8 n0_a
  have K13 : Keep h0 h13 [a] := K8.wr W13 (Or.inl (List.mem_of_getElem? (i := 0) rfl))
  exact own_ret0 X13 hx hby fin hret jd_42_149__57 (by decide) (by decide) (by rw [e13]; exact ⟨rfl, N13, K13, bb3, szb, E14_a, F15_coder, F16_value, V17_bb3⟩)
theorem ef_rmI1_1 (m : MethodId) (x0 : Addr) (x1 : Addr) : entryFrame m #[(.ref x0), (.ref x1)] 2 = mkF m 0 #[.val (.ref x0), .val (.ref x1)] [] := by first | (simp [entryFrame, mkF, argsToLocals, Value.category]; done) | rfl
theorem jd_42_3__0 : decode jdk_42_method_3_code 0 = .ok (.aload_n 0, 1) := by decide +kernel
theorem jd_42_3__1 : decode jdk_42_method_3_code 1 = .ok (.aload_n 1, 1) := by decide +kernel
theorem jd_42_3__2 : decode jdk_42_method_3_code 2 = .ok (.iconst 0, 1) := by decide +kernel
theorem jd_42_3__3 : decode jdk_42_method_3_code 3 = .ok (.aload_n 1, 1) := by decide +kernel
theorem jd_42_3__4 : decode jdk_42_method_3_code 4 = .ok (.arraylength, 1) := by decide +kernel
theorem jd_42_3__5 : decode jdk_42_method_3_code 5 = .ok (.aconst_null, 1) := by decide +kernel
theorem jd_42_3__6 : decode jdk_42_method_3_code 6 = .ok (.invokespecial 27, 3) := by decide +kernel
theorem pd___CIILjava_lang_Void__V : parseMethodDescriptor "([CIILjava/lang/Void;)V" = some ⟨[(.array .char), .int, .int, (.object "java/lang/Void")], none⟩ := by decide +kernel
theorem jd_42_3__9 : decode jdk_42_method_3_code 9 = .ok (.return_, 1) := by decide +kernel
set_option maxRecDepth 65536 in
set_option maxHeartbeats 40000000 in
theorem rmI1_1 (l : Launch) (Z : State) (a0 : Array Value) (hw : ∀ d ∈ tables_1, d.before a0 Z = true) (a ca : Addr) (cs : Int32) (x0 : Int32) (n0 : Nat) (h0 : Heap) (hcs : ¬ cs = (0 : Int32)) (hx0 : ¬ (255 : Int32) < x0) (n0_a : n0 ≤ a) (Z0 : n0 ≤ h0.size) (ne_a_ca : a ≠ ca) (Scs : Sta Z h0 "java/lang/String" "COMPACT_STRINGS" "Z" (.int cs)) (E : Exa Z h0 a "java/lang/String") (F : Fld Z h0 a "java/lang/String" "coder" "B" (.int (0 : Int32))) (G : Fld Z h0 a "java/lang/String" "value" "[B" .null) (Vc : AV Z h0 ca .char [(.int x0)]) : Con l Z (⟨"java/lang/String", "<init>", "([C)V"⟩ : MethodName) jdk_42_method_3_code 2 none [] ({ frames := 3, cells := 1, slots := 1, locals := 60 } : Room) #[(.ref a), (.ref ca)] h0 (fun v h L => v = none ∧ Fr n0 L ∧ Keep h0 h [a] ∧ ∃ b : Addr, h0.size ≤ b ∧ Exa Z h a "java/lang/String" ∧ Fld Z h a "java/lang/String" "coder" "B" (.int (0 : Int32)) ∧ Fld Z h a "java/lang/String" "value" "[B" (.ref b) ∧ AV Z h b .byte [(.int (nar .byte (x0.toInt8.toInt32)))]) := by
  refine Con.of (plainFor_of_name pn_java_lang_String) ?_
  intro p e s m below meth c T X hx hby hml hown hnm hret eT hZ hsh Φ fin
  replace hown : s.vm.findClass "java/lang/String" = some m.cls := hown
  replace hml : 2 = c.maxLocals := hml.symm
  refine own_step (fun tq kq => castTop (ef_rmI1_1 m a ca) kq) ?_
  have N0 := Fr.nil n0
  have K0 : Keep h0 h0 [a] := Keep.refl h0 [a]
  refine own_aloadN X hx hby jd_42_3__0 rfl rfl (pc' := 1) rfl ?_
  refine own_aloadN X hx hby jd_42_3__1 rfl rfl (pc' := 2) rfl ?_
  refine own_iconst X hx hby jd_42_3__2 (v := (0 : Int32)) rfl (pc' := 3) rfl ?_
  refine own_aloadN X hx hby jd_42_3__3 rfl rfl (pc' := 4) rfl ?_
  refine own_alen X hx hby hZ eT (n := (1 : Int32)) Vc rfl jd_42_3__4 (pc' := 5) rfl ?_
  refine own_aconst_null X hx hby jd_42_3__5 (pc' := 6) rfl ?_
  refine own_callI X hx hby hZ (by exact hml) hown rfl (own_w hw 14 rfl) (own_w hw 15 rfl) (own_w hw 6 rfl) (own_w hw 17 rfl) (by decide) eT 0 (by decide) (by decide) (by decide) (by decide) (argsL := [(.ref ca), (.int (0 : Int32)), (.int (1 : Int32)), .null]) (rest := []) (lenOf pd___CIILjava_lang_Void__V rfl) rfl (Nat.le_of_eq rfl) (rmI5_1 l Z a0 hw a ca cs x0 n0 h0 hcs hx0 n0_a Z0 ne_a_ca Scs E F G Vc) jd_42_3__6 (pc' := 9) rfl ?_
  intro v1 T1 L1 X1 hQ1
  obtain ⟨rfl, Nq1, K1, bb1, sb1, E1, FC1, FV1, V1⟩ := hQ1
  have N1 := Fr.app N0 Nq1
  have Z1 : n0 ≤ T1.heap.size := Nat.le_trans Z0 K1.1
  have KK1 : Keep h0 T1.heap [a] := K0.trans K1 (allS (Or.inl (List.mem_of_getElem? (i := 0) rfl)) all0)
  show GoP p e below Φ (T1.setTop (mkF m 9 #[.val (.ref a), .val (.ref ca)] []))
  exact own_ret0 X1 hx hby fin hret jd_42_3__9 (by decide) (by decide) ⟨rfl, N1, KK1, bb1, sb1, E1, FC1, FV1, V1⟩
theorem ef_rmC5_2 (m : MethodId) (x0 : Addr) (x1 : Int32) (x2 : Addr) (x3 : Int32) (x4 : Int32) : entryFrame m #[(.ref x0), (.int x1), (.ref x2), (.int x3), (.int x4)] 7 = mkF m 0 #[.val (.ref x0), .val (.int x1), .val (.ref x2), .val (.int x3), .val (.int x4), .unset, .unset] [] := by first | (simp [entryFrame, mkF, argsToLocals, Value.category]; done) | rfl
set_option maxRecDepth 65536 in
set_option maxHeartbeats 40000000 in
theorem rmC5_2 (l : Launch) (Z : State) (a0 : Array Value) (hw : ∀ d ∈ tables_1, d.before a0 Z = true) (a b : Addr) (x0 : Int32) (x1 : Int32) (n0 : Nat) (h0 : Heap) (hx0 : ¬ (255 : Int32) < x0) (hx1 : ¬ (255 : Int32) < x1) (n0_b : n0 ≤ b) (ne_a_b : a ≠ b) (Va : AV Z h0 a .char [(.int x0), (.int x1)]) (Vb : AV Z h0 b .byte [(.int (0 : Int32)), (.int (0 : Int32))]) : Con l Z (⟨"java/lang/StringUTF16", "compress", "([CI[BII)I"⟩ : MethodName) jdk_52_method_21_code 7 (some .int) [] ({ frames := 0, cells := 0, slots := 0, locals := 0 } : Room) #[(.ref a), (.int (0 : Int32)), (.ref b), (.int (0 : Int32)), (.int (2 : Int32))] h0 (fun v h L => v = some (.int (2 : Int32)) ∧ Fr n0 L ∧ Keep h0 h [b] ∧ AV Z h b .byte [(.int (nar .byte (x0.toInt8.toInt32))), (.int (nar .byte (x1.toInt8.toInt32)))]) := by
  refine Con.of (plainFor_of_name pn_java_lang_StringUTF16) ?_
  intro p e s m below meth c T X hx hby hml hown hnm hret eT hZ hsh Φ fin
  replace hown : s.vm.findClass "java/lang/StringUTF16" = some m.cls := hown
  replace hml : 7 = c.maxLocals := hml.symm
  refine own_step (fun tq kq => castTop (ef_rmC5_2 m a (0 : Int32) b (0 : Int32) (2 : Int32)) kq) ?_
  have N0 := Fr.nil n0
  have K0 : Keep h0 h0 [b] := Keep.refl h0 [b]
  refine own_iconst X hx hby jd_52_21__0 (v := (0 : Int32)) rfl (pc' := 1) rfl ?_
  refine own_istore X hx hby jd_52_21__1  (Ls' := #[.val (.ref a), .val (.int (0 : Int32)), .val (.ref b), .val (.int (0 : Int32)), .val (.int (2 : Int32)), .val (.int (0 : Int32)), .unset]) rfl (pc' := 3) rfl ?_
  refine own_iload X hx hby jd_52_21__3 rfl (pc' := 5) rfl ?_
  refine own_iload X hx hby jd_52_21__5 rfl (pc' := 7) rfl ?_
  refine own_icmpN X hx hby jd_52_21__7 (tlt (by decide)).2.1 (pc' := 10) rfl ?_
  refine own_aloadN X hx hby jd_52_21__10 rfl rfl (pc' := 11) rfl ?_
  refine own_iloadN X hx hby jd_52_21__11 rfl (pc' := 12) rfl ?_
  refine own_caload X hx hby hZ eT Va (by decide) (v := (.int x0)) rfl jd_52_21__12 (pc' := 13) rfl ?_
  refine own_istore X hx hby jd_52_21__13  (Ls' := #[.val (.ref a), .val (.int (0 : Int32)), .val (.ref b), .val (.int (0 : Int32)), .val (.int (2 : Int32)), .val (.int (0 : Int32)), .val (.int x0)]) rfl (pc' := 15) rfl ?_
  refine own_iload X hx hby jd_52_21__15 rfl (pc' := 17) rfl ?_
  refine own_sipush X hx hby jd_52_21__17 (v := (255 : Int32)) rfl (pc' := 20) rfl ?_
  refine own_icmpY X hx hby jd_52_21__20 (flt hx0).2.2.2 (by decide) (pc' := 26) (by decide) ?_
  refine own_aloadN X hx hby jd_52_21__26 rfl rfl (pc' := 27) rfl ?_
  refine own_iloadN X hx hby jd_52_21__27 rfl (pc' := 28) rfl ?_
  refine own_iload X hx hby jd_52_21__28 rfl (pc' := 30) rfl ?_
  refine own_i2b X hx hby jd_52_21__30 (pc' := 31) rfl ?_
  refine own_bastoreB X hx hby hZ eT Vb (by decide) (Nat.le_of_ble_eq_true rfl) jd_52_21__31 (pc' := 32) rfl ?_
  intro T1 h1 X1 e1 W1 V1
  replace V1 : AV Z h1 b .byte [(.int (nar .byte (x0.toInt8.toInt32))), (.int (0 : Int32))] := V1
  have V2_a := Va.other W1 ne_a_b
  have N1 := Fr.snoc X1 N0 n0_b
  have K1 : Keep h0 h1 [b] := K0.wr W1 (Or.inl (List.mem_of_getElem? (i := 0) rfl))
  refine own_iinc X1 hx hby jd_52_21__32 rfl (v := (1 : Int32)) rfl (Ls' := #[.val (.ref a), .val (.int (1 : Int32)), .val (.ref b), .val (.int (0 : Int32)), .val (.int (2 : Int32)), .val (.int (0 : Int32)), .val (.int x0)]) rfl (pc' := 35) rfl ?_
  refine own_iinc X1 hx hby jd_52_21__35 rfl (v := (1 : Int32)) rfl (Ls' := #[.val (.ref a), .val (.int (1 : Int32)), .val (.ref b), .val (.int (1 : Int32)), .val (.int (2 : Int32)), .val (.int (0 : Int32)), .val (.int x0)]) rfl (pc' := 38) rfl ?_
  refine own_iinc X1 hx hby jd_52_21__38 rfl (v := (1 : Int32)) rfl (Ls' := #[.val (.ref a), .val (.int (1 : Int32)), .val (.ref b), .val (.int (1 : Int32)), .val (.int (2 : Int32)), .val (.int (1 : Int32)), .val (.int x0)]) rfl (pc' := 41) rfl ?_
  refine own_goto X1 hx hby jd_52_21__41 (by decide) (pc' := 3) (by decide) ?_
  refine own_iload X1 hx hby jd_52_21__3 rfl (pc' := 5) rfl ?_
  refine own_iload X1 hx hby jd_52_21__5 rfl (pc' := 7) rfl ?_
  refine own_icmpN X1 hx hby jd_52_21__7 (tlt (by decide)).2.1 (pc' := 10) rfl ?_
  refine own_aloadN X1 hx hby jd_52_21__10 rfl rfl (pc' := 11) rfl ?_
  refine own_iloadN X1 hx hby jd_52_21__11 rfl (pc' := 12) rfl ?_
  refine own_caload X1 hx hby hZ e1 V2_a (by decide) (v := (.int x1)) rfl jd_52_21__12 (pc' := 13) rfl ?_
  refine own_istore X1 hx hby jd_52_21__13  (Ls' := #[.val (.ref a), .val (.int (1 : Int32)), .val (.ref b), .val (.int (1 : Int32)), .val (.int (2 : Int32)), .val (.int (1 : Int32)), .val (.int x1)]) rfl (pc' := 15) rfl ?_
  refine own_iload X1 hx hby jd_52_21__15 rfl (pc' := 17) rfl ?_
  refine own_sipush X1 hx hby jd_52_21__17 (v := (255 : Int32)) rfl (pc' := 20) rfl ?_
  refine own_icmpY X1 hx hby jd_52_21__20 (flt hx1).2.2.2 (by decide) (pc' := 26) (by decide) ?_
  refine own_aloadN X1 hx hby jd_52_21__26 rfl rfl (pc' := 27) rfl ?_
  refine own_iloadN X1 hx hby jd_52_21__27 rfl (pc' := 28) rfl ?_
  refine own_iload X1 hx hby jd_52_21__28 rfl (pc' := 30) rfl ?_
  refine own_i2b X1 hx hby jd_52_21__30 (pc' := 31) rfl ?_
  refine own_bastoreB X1 hx hby hZ e1 V1 (by decide) (Nat.le_of_ble_eq_true rfl) jd_52_21__31 (pc' := 32) rfl ?_
  intro T4 h4 X4 e4 W4 V4
  replace V4 : AV Z h4 b .byte [(.int (nar .byte (x0.toInt8.toInt32))), (.int (nar .byte (x1.toInt8.toInt32)))] := V4
  have V5_a := V2_a.other W4 ne_a_b
  have N4 := Fr.snoc X4 N1 n0_b
  have K4 : Keep h0 h4 [b] := K1.wr W4 (Or.inl (List.mem_of_getElem? (i := 0) rfl))
  refine own_iinc X4 hx hby jd_52_21__32 rfl (v := (1 : Int32)) rfl (Ls' := #[.val (.ref a), .val (.int (2 : Int32)), .val (.ref b), .val (.int (1 : Int32)), .val (.int (2 : Int32)), .val (.int (1 : Int32)), .val (.int x1)]) rfl (pc' := 35) rfl ?_
  refine own_iinc X4 hx hby jd_52_21__35 rfl (v := (1 : Int32)) rfl (Ls' := #[.val (.ref a), .val (.int (2 : Int32)), .val (.ref b), .val (.int (2 : Int32)), .val (.int (2 : Int32)), .val (.int (1 : Int32)), .val (.int x1)]) rfl (pc' := 38) rfl ?_
  refine own_iinc X4 hx hby jd_52_21__38 rfl (v := (1 : Int32)) rfl (Ls' := #[.val (.ref a), .val (.int (2 : Int32)), .val (.ref b), .val (.int (2 : Int32)), .val (.int (2 : Int32)), .val (.int (2 : Int32)), .val (.int x1)]) rfl (pc' := 41) rfl ?_
  refine own_goto X4 hx hby jd_52_21__41 (by decide) (pc' := 3) (by decide) ?_
  refine own_iload X4 hx hby jd_52_21__3 rfl (pc' := 5) rfl ?_
  refine own_iload X4 hx hby jd_52_21__5 rfl (pc' := 7) rfl ?_
  refine own_icmpY X4 hx hby jd_52_21__7 (flt (by decide)).2.1 (by decide) (pc' := 44) (by decide) ?_
  refine own_iload X4 hx hby jd_52_21__44 rfl (pc' := 46) rfl ?_
  exact own_retI X4 hx hby fin hret jd_52_21__46 (by decide) (by decide) (by rw [e4]; exact ⟨rfl, N4, K4, V4⟩)
theorem ef_rmC3_2 (m : MethodId) (x0 : Addr) (x1 : Int32) (x2 : Int32) : entryFrame m #[(.ref x0), (.int x1), (.int x2)] 6 = mkF m 0 #[.val (.ref x0), .val (.int x1), .val (.int x2), .unset, .unset, .unset] [] := by first | (simp [entryFrame, mkF, argsToLocals, Value.category]; done) | rfl
set_option maxRecDepth 65536 in
set_option maxHeartbeats 40000000 in
theorem rmC3_2 (l : Launch) (Z : State) (a0 : Array Value) (hw : ∀ d ∈ tables_1, d.before a0 Z = true) (a : Addr) (x0 : Int32) (x1 : Int32) (n0 : Nat) (h0 : Heap) (hx0 : ¬ (255 : Int32) < x0) (hx1 : ¬ (255 : Int32) < x1) (Z0 : n0 ≤ h0.size) (Va : AV Z h0 a .char [(.int x0), (.int x1)]) : Con l Z (⟨"java/lang/StringUTF16", "compress", "([CII)[B"⟩ : MethodName) jdk_52_method_16_code 6 (some (.array .byte)) [] ({ frames := 1, cells := 1, slots := 2, locals := 20 } : Room) #[(.ref a), (.int (0 : Int32)), (.int (2 : Int32))] h0 (fun v h L => ∃ b : Addr, v = some (.ref b) ∧ Fr n0 L ∧ Keep h0 h [] ∧ h0.size ≤ b ∧ AV Z h b .byte [(.int (nar .byte (x0.toInt8.toInt32))), (.int (nar .byte (x1.toInt8.toInt32)))]) := by
  refine Con.of (plainFor_of_name pn_java_lang_StringUTF16) ?_
  intro p e s m below meth c T X hx hby hml hown hnm hret eT hZ hsh Φ fin
  replace hown : s.vm.findClass "java/lang/StringUTF16" = some m.cls := hown
  replace hml : 6 = c.maxLocals := hml.symm
  refine own_step (fun tq kq => castTop (ef_rmC3_2 m a (0 : Int32) (2 : Int32)) kq) ?_
  have N0 := Fr.nil n0
  have K0 : Keep h0 h0 [] := Keep.refl h0 []
  refine own_iloadN X hx hby jd_52_16__0 rfl (pc' := 1) rfl ?_
  obtain ⟨T1, h1, k1, X1, e1, E1, A1, st1⟩ := newP X hx hZ (own_w hw 26 rfl) eT (g := (mkF m 1 #[.val (.ref a), .val (.int (0 : Int32)), .val (.int (2 : Int32)), .unset, .unset, .unset] [(.int (2 : Int32))])) rfl (hb hby jd_52_16__1) rfl (by decide) (cap := 2) (by decide) (by decide) (by decide) (by decide)
  obtain ⟨b1, g1⟩ : ∃ z, z = h0.size := ⟨_, rfl⟩
  have ne_a_b1 : a ≠ b1 := Nat.ne_of_lt (g1 ▸ Va.lt)
  have V2_a := Va.ext E1
  have Z1 : n0 ≤ h1.size := Nat.le_trans Z0 E1.1
  have n0_b1 : n0 ≤ b1 := g1 ▸ Z0
  have sz_b1 : h0.size ≤ b1 := g1 ▸ K0.1
  have K1 : Keep h0 h1 [] := K0.ext E1
  rw [← g1] at A1 st1
  refine own_step st1 ?_
  have V1 : AV Z h1 b1 .byte [(.int (0 : Int32)), (.int (0 : Int32))] := AV.new A1 (by decide)
  show GoP p e below Φ (T1.setTop (mkF m 3 #[.val (.ref a), .val (.int (0 : Int32)), .val (.int (2 : Int32)), .unset, .unset, .unset] [(.ref b1)]))
  refine own_astoreN X1 hx hby jd_52_16__3 rfl (Ls' := #[.val (.ref a), .val (.int (0 : Int32)), .val (.int (2 : Int32)), .val (.ref b1), .unset, .unset]) rfl (pc' := 4) rfl ?_
  refine own_aloadN X1 hx hby jd_52_16__4 rfl rfl (pc' := 5) rfl ?_
  refine own_iloadN X1 hx hby jd_52_16__5 rfl (pc' := 6) rfl ?_
  refine own_aloadN X1 hx hby jd_52_16__6 rfl rfl (pc' := 7) rfl ?_
  refine own_iconst X1 hx hby jd_52_16__7 (v := (0 : Int32)) rfl (pc' := 8) rfl ?_
  refine own_iloadN X1 hx hby jd_52_16__8 rfl (pc' := 9) rfl ?_
  refine own_callS X1 hx hby hZ (by exact hml) hown (own_w hw 27 rfl) (own_w hw 28 rfl) (own_w hw 24 rfl) (own_w hw 29 rfl) (by decide) e1 0 (by decide) (by decide) (by decide) (by decide) (argsL := [(.ref a), (.int (0 : Int32)), (.ref b1), (.int (0 : Int32)), (.int (2 : Int32))]) (rest := []) (lenOf pd___CI_BII_I rfl) rfl (rmC5_2 l Z a0 hw a b1 x0 x1 n0 h1 hx0 hx1 n0_b1 ne_a_b1 V2_a V1) (Nat.le_of_eq rfl) jd_52_16__9 (pc' := 12) rfl ?_
  intro v3 T3 L3 X3 hQ3
  obtain ⟨rfl, Nq3, K3, V3⟩ := hQ3
  have V4_a := V2_a.keep K3 (ninS ne_a_b1 nin0)
  have N3 := Fr.app N0 Nq3
  have Z3 : n0 ≤ T3.heap.size := Nat.le_trans Z1 K3.1
  have KK3 : Keep h0 T3.heap [] := K1.trans K3 (allS (Or.inr sz_b1) all0)
  show GoP p e below Φ (T3.setTop (mkF m 12 #[.val (.ref a), .val (.int (0 : Int32)), .val (.int (2 : Int32)), .val (.ref b1), .unset, .unset] [(.int (2 : Int32))]))
  refine own_istore X3 hx hby jd_52_16__12  (Ls' := #[.val (.ref a), .val (.int (0 : Int32)), .val (.int (2 : Int32)), .val (.ref b1), .val (.int (2 : Int32)), .unset]) rfl (pc' := 14) rfl ?_
  refine own_iload X3 hx hby jd_52_16__14 rfl (pc' := 16) rfl ?_
  refine own_iloadN X3 hx hby jd_52_16__16 rfl (pc' := 17) rfl ?_
  refine own_icmpY X3 hx hby jd_52_16__17 (teq (by decide)).1 (by decide) (pc' := 57) (by decide) ?_
  refine own_aloadN X3 hx hby jd_52_16__57 rfl rfl (pc' := 58) rfl ?_
  exact own_retA X3 hx hby fin hret rfl rfl rfl jd_52_16__58 (by decide) (by decide) ⟨b1, rfl, N3, KK3, sz_b1, V3⟩
theorem ef_rmCF_2 (m : MethodId) (x0 : Addr) (x1 : Int32) : entryFrame m #[(.ref x0), (.int x1)] 2 = mkF m 0 #[.val (.ref x0), .val (.int x1)] [] := by first | (simp [entryFrame, mkF, argsToLocals, Value.category]; done) | rfl
set_option maxRecDepth 65536 in
set_option maxHeartbeats 40000000 in
theorem rmCF_2 (l : Launch) (Z : State) (a0 : Array Value) (hw : ∀ d ∈ tables_1, d.before a0 Z = true) (b : Addr) (x0 : Int32) (x1 : Int32) (h0 : Heap) (V : AV Z h0 b .byte [(.int x0), (.int x1)]) : Con l Z (⟨"java/lang/StringUTF16", "coderFromArrayLen", "([BI)B"⟩ : MethodName) jdk_52_method_15_code 2 (some .byte) [] ({ frames := 0, cells := 0, slots := 0, locals := 0 } : Room) #[(.ref b), (.int (2 : Int32))] h0 (fun v h L => v = some (.int (0 : Int32)) ∧ L = [] ∧ h = h0) := by
  refine Con.of (plainFor_of_name pn_java_lang_StringUTF16) ?_
  intro p e s m below meth c T X hx hby hml hown hnm hret eT hZ hsh Φ fin
  replace hown : s.vm.findClass "java/lang/StringUTF16" = some m.cls := hown
  replace hml : 2 = c.maxLocals := hml.symm
  refine own_step (fun tq kq => castTop (ef_rmCF_2 m b (2 : Int32)) kq) ?_
  refine own_iloadN X hx hby jd_52_15__0 rfl (pc' := 1) rfl ?_
  refine own_aloadN X hx hby jd_52_15__1 rfl rfl (pc' := 2) rfl ?_
  refine own_alen X hx hby hZ eT (n := (2 : Int32)) V rfl jd_52_15__2 (pc' := 3) rfl ?_
  refine own_isub X hx hby jd_52_15__3 (pc' := 4) rfl ?_
  show GoP p e below Φ (T.setTop (mkF m 4 #[.val (.ref b), .val (.int (2 : Int32))] [(.int (0 : Int32))]))
  refine own_bipush X hx hby jd_52_15__4 (v := (31 : Int32)) rfl (pc' := 6) rfl ?_
  refine own_iushr X hx hby jd_52_15__6 (pc' := 7) rfl ?_
  show GoP p e below Φ (T.setTop (mkF m 7 #[.val (.ref b), .val (.int (2 : Int32))] [(.int (0 : Int32))]))
  refine own_i2b X hx hby jd_52_15__7 (pc' := 8) rfl ?_
  show GoP p e below Φ (T.setTop (mkF m 8 #[.val (.ref b), .val (.int (2 : Int32))] [(.int (0 : Int32))]))
  exact own_retN X hx hby fin hret (by simp) rfl jd_52_15__8 (by decide) (by decide) ⟨rfl, rfl, eT⟩
theorem ef_rmI5_2 (m : MethodId) (x0 : Addr) (x1 : Addr) (x2 : Int32) (x3 : Int32) : entryFrame m #[(.ref x0), (.ref x1), (.int x2), (.int x3), .null] 6 = mkF m 0 #[.val (.ref x0), .val (.ref x1), .val (.int x2), .val (.int x3), .val .null, .unset] [] := by first | (simp [entryFrame, mkF, argsToLocals, Value.category]; done) | rfl
set_option maxRecDepth 65536 in
set_option maxHeartbeats 40000000 in
theorem rmI5_2 (l : Launch) (Z : State) (a0 : Array Value) (hw : ∀ d ∈ tables_1, d.before a0 Z = true) (a ca : Addr) (cs : Int32) (x0 : Int32) (x1 : Int32) (n0 : Nat) (h0 : Heap) (hcs : ¬ cs = (0 : Int32)) (hx0 : ¬ (255 : Int32) < x0) (hx1 : ¬ (255 : Int32) < x1) (n0_a : n0 ≤ a) (Z0 : n0 ≤ h0.size) (ne_a_ca : a ≠ ca) (Scs : Sta Z h0 "java/lang/String" "COMPACT_STRINGS" "Z" (.int cs)) (E : Exa Z h0 a "java/lang/String") (F : Fld Z h0 a "java/lang/String" "coder" "B" (.int (0 : Int32))) (G : Fld Z h0 a "java/lang/String" "value" "[B" .null) (Vc : AV Z h0 ca .char [(.int x0), (.int x1)]) : Con l Z (⟨"java/lang/String", "<init>", "([CIILjava/lang/Void;)V"⟩ : MethodName) jdk_42_method_149_code 6 none [] ({ frames := 2, cells := 1, slots := 2, locals := 40 } : Room) #[(.ref a), (.ref ca), (.int (0 : Int32)), (.int (2 : Int32)), .null] h0 (fun v h L => v = none ∧ Fr n0 L ∧ Keep h0 h [a] ∧ ∃ b : Addr, h0.size ≤ b ∧ Exa Z h a "java/lang/String" ∧ Fld Z h a "java/lang/String" "coder" "B" (.int (0 : Int32)) ∧ Fld Z h a "java/lang/String" "value" "[B" (.ref b) ∧ AV Z h b .byte [(.int (nar .byte (x0.toInt8.toInt32))), (.int (nar .byte (x1.toInt8.toInt32)))]) := by
  refine Con.of (plainFor_of_name pn_java_lang_String) ?_
  intro p e s m below meth c T X hx hby hml hown hnm hret eT hZ hsh Φ fin
  replace hown : s.vm.findClass "java/lang/String" = some m.cls := hown
  replace hml : 6 = c.maxLocals := hml.symm
  refine own_step (fun tq kq => castTop (ef_rmI5_2 m a ca (0 : Int32) (2 : Int32)) kq) ?_
  have N0 := Fr.nil n0
  have K0 : Keep h0 h0 [a] := Keep.refl h0 [a]
  refine own_aloadN X hx hby jd_42_149__0 rfl rfl (pc' := 1) rfl ?_
  obtain ⟨T1, X1, e1, st1⟩ := initO X hx hZ hown (own_w hw 18 rfl) (own_w hw 19 rfl) (own_w hw 20 rfl) eT (g := (mkF m 1 #[.val (.ref a), .val (.ref ca), .val (.int (0 : Int32)), .val (.int (2 : Int32)), .val .null, .unset] [(.ref a)])) rfl hml rfl (hb hby jd_42_149__1) (by decide) (W := 0) (by show 2 * 0 + _ ≤ _; exact Nat.le_of_eq rfl) (by decide)
  refine own_step st1 ?_
  show GoP p e below Φ (T1.setTop (mkF m 4 #[.val (.ref a), .val (.ref ca), .val (.int (0 : Int32)), .val (.int (2 : Int32)), .val .null, .unset] []))
  refine own_iloadN X1 hx hby jd_42_149__4 rfl (pc' := 5) rfl ?_
  refine own_ifY X1 hx hby jd_42_149__5 ((if0 _ _).trans (feq (by decide)).2) (by decide) (pc' := 27) (by decide) ?_
  refine own_getS X1 hx hby hZ hown (host := "") (Or.inl (own_w hw 21 rfl)) Via.refl e1 Scs jd_42_149__27 (pc' := 30) rfl ?_
  intro T2 X2 e2
  refine own_ifN X2 hx hby jd_42_149__30 ((if0 _ _).trans (feq hcs).1) (pc' := 33) rfl ?_
  refine own_aloadN X2 hx hby jd_42_149__33 rfl rfl (pc' := 34) rfl ?_
  refine own_iloadN X2 hx hby jd_42_149__34 rfl (pc' := 35) rfl ?_
  refine own_iloadN X2 hx hby jd_42_149__35 rfl (pc' := 36) rfl ?_
  refine own_callS X2 hx hby hZ (by exact hml) hown (own_w hw 22 rfl) (own_w hw 23 rfl) (own_w hw 24 rfl) (own_w hw 25 rfl) (by decide) e2 0 (by decide) (by decide) (by decide) (by decide) (argsL := [(.ref ca), (.int (0 : Int32)), (.int (2 : Int32))]) (rest := []) (lenOf pd___CII__B rfl) rfl (rmC3_2 l Z a0 hw ca x0 x1 n0 h0 hx0 hx1 Z0 Vc) (Nat.le_of_eq rfl) jd_42_149__36 (pc' := 39) rfl ?_
  intro v3 T3 L3 X3 hQ3
  obtain ⟨bb3, rfl, Nq3, K3, sb3, V3⟩ := hQ3
  have ne_a_bb3 : a ≠ bb3 := Nat.ne_of_lt (Nat.lt_of_lt_of_le E.lt sb3)
  have szb : h0.size ≤ bb3 := Nat.le_trans K0.1 sb3
  have E4_a := E.keep K3
  have F5_coder := F.keep K3 nin0
  have F6_value := G.keep K3 nin0
  have N3 := Fr.app N0 Nq3
  have Z3 : n0 ≤ T3.heap.size := Nat.le_trans Z0 K3.1
  have KK3 : Keep h0 T3.heap [a] := K0.trans K3 all0
  show GoP p e below Φ (T3.setTop (mkF m 39 #[.val (.ref a), .val (.ref ca), .val (.int (0 : Int32)), .val (.int (2 : Int32)), .val .null, .unset] [(.ref bb3)]))
  refine own_astore X3 hx hby jd_42_149__39 rfl (Ls' := #[.val (.ref a), .val (.ref ca), .val (.int (0 : Int32)), .val (.int (2 : Int32)), .val .null, .val (.ref bb3)]) rfl (pc' := 41) rfl ?_
  refine own_aloadN X3 hx hby jd_42_149__41 rfl rfl (pc' := 42) rfl ?_
  refine own_aload X3 hx hby jd_42_149__42 rfl rfl (pc' := 44) rfl ?_
  refine own_iloadN X3 hx hby jd_42_149__44 rfl (pc' := 45) rfl ?_
  refine own_callS X3 hx hby hZ (by exact hml) hown (own_w hw 30 rfl) (own_w hw 31 rfl) (own_w hw 24 rfl) (own_w hw 32 rfl) (by decide) rfl 1 (by decide) (by decide) (by decide) (by decide) (argsL := [(.ref bb3), (.int (2 : Int32))]) (rest := [(.ref a)]) (lenOf pd___BI_B rfl) rfl (rmCF_2 l Z a0 hw bb3 (nar .byte (x0.toInt8.toInt32)) (nar .byte (x1.toInt8.toInt32)) T3.heap V3) (Nat.le_of_eq rfl) jd_42_149__45 (pc' := 48) rfl ?_
  intro v7 T7 L7 X7 hQ7
  obtain ⟨rfl, rfl, e7⟩ := hQ7
  rw [List.append_nil] at X7
  replace e7 : T7.heap = T3.heap := e7
  show GoP p e below Φ (T7.setTop (mkF m 48 #[.val (.ref a), .val (.ref ca), .val (.int (0 : Int32)), .val (.int (2 : Int32)), .val .null, .val (.ref bb3)] [(.int (0 : Int32)), (.ref a)]))
  obtain ⟨T8, h8, X8, e8, W8, st8⟩ := putFN X7 hx hZ hown (own_w hw 33 rfl) Via.refl e7 F5_coder E4_a (Or.inr ⟨(own_w hw 34 rfl), rfl, hnm⟩) (own_w hw 5 rfl) (ty := .byte) (v' := (.int (0 : Int32))) (by decide) rfl (by decide) (g := (mkF m 48 #[.val (.ref a), .val (.ref ca), .val (.int (0 : Int32)), .val (.int (2 : Int32)), .val .null, .val (.ref bb3)] [(.int (0 : Int32)), (.ref a)])) rfl rfl (hb hby jd_42_149__48)
  refine own_step st8 ?_
  have E9_a := E4_a.wr W8
  have F10_coder := F5_coder.same W8
  have F11_value := F6_value.other W8 (Or.inr (slot_ne (Or.inr (own_w hw 36 rfl)) (Or.inr (own_w hw 34 rfl)) (by decide) (t := (.array .byte)) (t' := .byte) (by decide) (by decide)))
  have V12_bb3 := V3.other W8 (Ne.symm ne_a_bb3)
  have Z8 : n0 ≤ h8.size := by rw [W8.size]; exact Z3
  have N8 := Fr.snoc X8 N3 n0_a
  have K8 : Keep h0 h8 [a] := KK3.wr W8 (Or.inl (List.mem_of_getElem? (i := 0) rfl))
  show GoP p e below Φ (T8.setTop (mkF m 51 #[.val (.ref a), .val (.ref ca), .val (.int (0 : Int32)), .val (.int (2 : Int32)), .val .null, .val (.ref bb3)] []))
  refine own_aloadN X8 hx hby jd_42_149__51 rfl rfl (pc' := 52) rfl ?_
  refine own_aload X8 hx hby jd_42_149__52 rfl rfl (pc' := 54) rfl ?_
  refine own_putF X8 hx hby hZ hown (host := "") (Or.inl (own_w hw 35 rfl)) Via.refl e8 F11_value E9_a (Or.inr ⟨(own_w hw 36 rfl), rfl, hnm⟩) (own_w hw 5 rfl) (ty := (.array .byte)) (by decide) rfl rfl jd_42_149__54 (pc' := 57) rfl ?_
  intro T13 h13 X13 e13 W13
  have E14_a := E9_a.wr W13
  have F15_coder := F10_coder.other W13 (Or.inr (slot_ne (Or.inr (own_w hw 34 rfl)) (Or.inr (own_w hw 36 rfl)) (by decide) (t := .byte) (t' := (.array .byte)) (by decide) (by decide)))
  have F16_value := F11_value.same W13
  have V17_bb3 := V12_bb3.other W13 (Ne.symm ne_a_bb3)
  have Z13 : n0 ≤ h13.size := by rw [W13.size]; exact Z8
  have N13 := Fr.snoc X13 N8 n0_a
  have K13 : Keep h0 h13 [a] := K8.wr W13 (Or.inl (List.mem_of_getElem? (i := 0) rfl))
  exact own_ret0 X13 hx hby fin hret jd_42_149__57 (by decide) (by decide) (by rw [e13]; exact ⟨rfl, N13, K13, bb3, szb, E14_a, F15_coder, F16_value, V17_bb3⟩)
theorem ef_rmI1_2 (m : MethodId) (x0 : Addr) (x1 : Addr) : entryFrame m #[(.ref x0), (.ref x1)] 2 = mkF m 0 #[.val (.ref x0), .val (.ref x1)] [] := by first | (simp [entryFrame, mkF, argsToLocals, Value.category]; done) | rfl
set_option maxRecDepth 65536 in
set_option maxHeartbeats 40000000 in
theorem rmI1_2 (l : Launch) (Z : State) (a0 : Array Value) (hw : ∀ d ∈ tables_1, d.before a0 Z = true) (a ca : Addr) (cs : Int32) (x0 : Int32) (x1 : Int32) (n0 : Nat) (h0 : Heap) (hcs : ¬ cs = (0 : Int32)) (hx0 : ¬ (255 : Int32) < x0) (hx1 : ¬ (255 : Int32) < x1) (n0_a : n0 ≤ a) (Z0 : n0 ≤ h0.size) (ne_a_ca : a ≠ ca) (Scs : Sta Z h0 "java/lang/String" "COMPACT_STRINGS" "Z" (.int cs)) (E : Exa Z h0 a "java/lang/String") (F : Fld Z h0 a "java/lang/String" "coder" "B" (.int (0 : Int32))) (G : Fld Z h0 a "java/lang/String" "value" "[B" .null) (Vc : AV Z h0 ca .char [(.int x0), (.int x1)]) : Con l Z (⟨"java/lang/String", "<init>", "([C)V"⟩ : MethodName) jdk_42_method_3_code 2 none [] ({ frames := 3, cells := 1, slots := 2, locals := 60 } : Room) #[(.ref a), (.ref ca)] h0 (fun v h L => v = none ∧ Fr n0 L ∧ Keep h0 h [a] ∧ ∃ b : Addr, h0.size ≤ b ∧ Exa Z h a "java/lang/String" ∧ Fld Z h a "java/lang/String" "coder" "B" (.int (0 : Int32)) ∧ Fld Z h a "java/lang/String" "value" "[B" (.ref b) ∧ AV Z h b .byte [(.int (nar .byte (x0.toInt8.toInt32))), (.int (nar .byte (x1.toInt8.toInt32)))]) := by
  refine Con.of (plainFor_of_name pn_java_lang_String) ?_
  intro p e s m below meth c T X hx hby hml hown hnm hret eT hZ hsh Φ fin
  replace hown : s.vm.findClass "java/lang/String" = some m.cls := hown
  replace hml : 2 = c.maxLocals := hml.symm
  refine own_step (fun tq kq => castTop (ef_rmI1_2 m a ca) kq) ?_
  have N0 := Fr.nil n0
  have K0 : Keep h0 h0 [a] := Keep.refl h0 [a]
  refine own_aloadN X hx hby jd_42_3__0 rfl rfl (pc' := 1) rfl ?_
  refine own_aloadN X hx hby jd_42_3__1 rfl rfl (pc' := 2) rfl ?_
  refine own_iconst X hx hby jd_42_3__2 (v := (0 : Int32)) rfl (pc' := 3) rfl ?_
  refine own_aloadN X hx hby jd_42_3__3 rfl rfl (pc' := 4) rfl ?_
  refine own_alen X hx hby hZ eT (n := (2 : Int32)) Vc rfl jd_42_3__4 (pc' := 5) rfl ?_
  refine own_aconst_null X hx hby jd_42_3__5 (pc' := 6) rfl ?_
  refine own_callI X hx hby hZ (by exact hml) hown rfl (own_w hw 14 rfl) (own_w hw 15 rfl) (own_w hw 6 rfl) (own_w hw 17 rfl) (by decide) eT 0 (by decide) (by decide) (by decide) (by decide) (argsL := [(.ref ca), (.int (0 : Int32)), (.int (2 : Int32)), .null]) (rest := []) (lenOf pd___CIILjava_lang_Void__V rfl) rfl (Nat.le_of_eq rfl) (rmI5_2 l Z a0 hw a ca cs x0 x1 n0 h0 hcs hx0 hx1 n0_a Z0 ne_a_ca Scs E F G Vc) jd_42_3__6 (pc' := 9) rfl ?_
  intro v1 T1 L1 X1 hQ1
  obtain ⟨rfl, Nq1, K1, bb1, sb1, E1, FC1, FV1, V1⟩ := hQ1
  have N1 := Fr.app N0 Nq1
  have Z1 : n0 ≤ T1.heap.size := Nat.le_trans Z0 K1.1
  have KK1 : Keep h0 T1.heap [a] := K0.trans K1 (allS (Or.inl (List.mem_of_getElem? (i := 0) rfl)) all0)
  show GoP p e below Φ (T1.setTop (mkF m 9 #[.val (.ref a), .val (.ref ca)] []))
  exact own_ret0 X1 hx hby fin hret jd_42_3__9 (by decide) (by decide) ⟨rfl, N1, KK1, bb1, sb1, E1, FC1, FV1, V1⟩
theorem ef_rmC5_3 (m : MethodId) (x0 : Addr) (x1 : Int32) (x2 : Addr) (x3 : Int32) (x4 : Int32) : entryFrame m #[(.ref x0), (.int x1), (.ref x2), (.int x3), (.int x4)] 7 = mkF m 0 #[.val (.ref x0), .val (.int x1), .val (.ref x2), .val (.int x3), .val (.int x4), .unset, .unset] [] := by first | (simp [entryFrame, mkF, argsToLocals, Value.category]; done) | rfl
set_option maxRecDepth 65536 in
set_option maxHeartbeats 40000000 in
theorem rmC5_3 (l : Launch) (Z : State) (a0 : Array Value) (hw : ∀ d ∈ tables_1, d.before a0 Z = true) (a b : Addr) (x0 : Int32) (x1 : Int32) (x2 : Int32) (n0 : Nat) (h0 : Heap) (hx0 : ¬ (255 : Int32) < x0) (hx1 : ¬ (255 : Int32) < x1) (hx2 : ¬ (255 : Int32) < x2) (n0_b : n0 ≤ b) (ne_a_b : a ≠ b) (Va : AV Z h0 a .char [(.int x0), (.int x1), (.int x2)]) (Vb : AV Z h0 b .byte [(.int (0 : Int32)), (.int (0 : Int32)), (.int (0 : Int32))]) : Con l Z (⟨"java/lang/StringUTF16", "compress", "([CI[BII)I"⟩ : MethodName) jdk_52_method_21_code 7 (some .int) [] ({ frames := 0, cells := 0, slots := 0, locals := 0 } : Room) #[(.ref a), (.int (0 : Int32)), (.ref b), (.int (0 : Int32)), (.int (3 : Int32))] h0 (fun v h L => v = some (.int (3 : Int32)) ∧ Fr n0 L ∧ Keep h0 h [b] ∧ AV Z h b .byte [(.int (nar .byte (x0.toInt8.toInt32))), (.int (nar .byte (x1.toInt8.toInt32))), (.int (nar .byte (x2.toInt8.toInt32)))]) := by
  refine Con.of (plainFor_of_name pn_java_lang_StringUTF16) ?_
  intro p e s m below meth c T X hx hby hml hown hnm hret eT hZ hsh Φ fin
  replace hown : s.vm.findClass "java/lang/StringUTF16" = some m.cls := hown
  replace hml : 7 = c.maxLocals := hml.symm
  refine own_step (fun tq kq => castTop (ef_rmC5_3 m a (0 : Int32) b (0 : Int32) (3 : Int32)) kq) ?_
  have N0 := Fr.nil n0
  have K0 : Keep h0 h0 [b] := Keep.refl h0 [b]
  refine own_iconst X hx hby jd_52_21__0 (v := (0 : Int32)) rfl (pc' := 1) rfl ?_
  refine own_istore X hx hby jd_52_21__1  (Ls' := #[.val (.ref a), .val (.int (0 : Int32)), .val (.ref b), .val (.int (0 : Int32)), .val (.int (3 : Int32)), .val (.int (0 : Int32)), .unset]) rfl (pc' := 3) rfl ?_
  refine own_iload X hx hby jd_52_21__3 rfl (pc' := 5) rfl ?_
  refine own_iload X hx hby jd_52_21__5 rfl (pc' := 7) rfl ?_
  refine own_icmpN X hx hby jd_52_21__7 (tlt (by decide)).2.1 (pc' := 10) rfl ?_
  refine own_aloadN X hx hby jd_52_21__10 rfl rfl (pc' := 11) rfl ?_
  refine own_iloadN X hx hby jd_52_21__11 rfl (pc' := 12) rfl ?_
  refine own_caload X hx hby hZ eT Va (by decide) (v := (.int x0)) rfl jd_52_21__12 (pc' := 13) rfl ?_
  refine own_istore X hx hby jd_52_21__13  (Ls' := #[.val (.ref a), .val (.int (0 : Int32)), .val (.ref b), .val (.int (0 : Int32)), .val (.int (3 : Int32)), .val (.int (0 : Int32)), .val (.int x0)]) rfl (pc' := 15) rfl ?_
  refine own_iload X hx hby jd_52_21__15 rfl (pc' := 17) rfl ?_
  refine own_sipush X hx hby jd_52_21__17 (v := (255 : Int32)) rfl (pc' := 20) rfl ?_
  refine own_icmpY X hx hby jd_52_21__20 (flt hx0).2.2.2 (by decide) (pc' := 26) (by decide) ?_
  refine own_aloadN X hx hby jd_52_21__26 rfl rfl (pc' := 27) rfl ?_
  refine own_iloadN X hx hby jd_52_21__27 rfl (pc' := 28) rfl ?_
  refine own_iload X hx hby jd_52_21__28 rfl (pc' := 30) rfl ?_
  refine own_i2b X hx hby jd_52_21__30 (pc' := 31) rfl ?_
  refine own_bastoreB X hx hby hZ eT Vb (by decide) (Nat.le_of_ble_eq_true rfl) jd_52_21__31 (pc' := 32) rfl ?_
  intro T1 h1 X1 e1 W1 V1
  replace V1 : AV Z h1 b .byte [(.int (nar .byte (x0.toInt8.toInt32))), (.int (0 : Int32)), (.int (0 : Int32))] := V1
  have V2_a := Va.other W1 ne_a_b
  have N1 := Fr.snoc X1 N0 n0_b
  have K1 : Keep h0 h1 [b] := K0.wr W1 (Or.inl (List.mem_of_getElem? (i := 0) rfl))
  refine own_iinc X1 hx hby jd_52_21__32 rfl (v := (1 : Int32)) rfl (Ls' := #[.val (.ref a), .val (.int (1 : Int32)), .val (.ref b), .val (.int (0 : Int32)), .val (.int (3 : Int32)), .val (.int (0 : Int32)), .val (.int x0)]) rfl (pc' := 35) rfl ?_
  refine own_iinc X1 hx hby jd_52_21__35 rfl (v := (1 : Int32)) rfl (Ls' := #[.val (.ref a), .val (.int (1 : Int32)), .val (.ref b), .val (.int (1 : Int32)), .val (.int (3 : Int32)), .val (.int (0 : Int32)), .val (.int x0)]) rfl (pc' := 38) rfl ?_
  refine own_iinc X1 hx hby jd_52_21__38 rfl (v := (1 : Int32)) rfl (Ls' := #[.val (.ref a), .val (.int (1 : Int32)), .val (.ref b), .val (.int (1 : Int32)), .val (.int (3 : Int32)), .val (.int (1 : Int32)), .val (.int x0)]) rfl (pc' := 41) rfl ?_
  refine own_goto X1 hx hby jd_52_21__41 (by decide) (pc' := 3) (by decide) ?_
  refine own_iload X1 hx hby jd_52_21__3 rfl (pc' := 5) rfl ?_
  refine own_iload X1 hx hby jd_52_21__5 rfl (pc' := 7) rfl ?_
  refine own_icmpN X1 hx hby jd_52_21__7 (tlt (by decide)).2.1 (pc' := 10) rfl ?_
  refine own_aloadN X1 hx hby jd_52_21__10 rfl rfl (pc' := 11) rfl ?_
  refine own_iloadN X1 hx hby jd_52_21__11 rfl (pc' := 12) rfl ?_
  refine own_caload X1 hx hby hZ e1 V2_a (by decide) (v := (.int x1)) rfl jd_52_21__12 (pc' := 13) rfl ?_
  refine own_istore X1 hx hby jd_52_21__13  (Ls' := #[.val (.ref a), .val (.int (1 : Int32)), .val (.ref b), .val (.int (1 : Int32)), .val (.int (3 : Int32)), .val (.int (1 : Int32)), .val (.int x1)]) rfl (pc' := 15) rfl ?_
  refine own_iload X1 hx hby jd_52_21__15 rfl (pc' := 17) rfl ?_
  refine own_sipush X1 hx hby jd_52_21__17 (v := (255 : Int32)) rfl (pc' := 20) rfl ?_
  refine own_icmpY X1 hx hby jd_52_21__20 (flt hx1).2.2.2 (by decide) (pc' := 26) (by decide) ?_
  refine own_aloadN X1 hx hby jd_52_21__26 rfl rfl (pc' := 27) rfl ?_
  refine own_iloadN X1 hx hby jd_52_21__27 rfl (pc' := 28) rfl ?_
  refine own_iload X1 hx hby jd_52_21__28 rfl (pc' := 30) rfl ?_
  refine own_i2b X1 hx hby jd_52_21__30 (pc' := 31) rfl ?_
  refine own_bastoreB X1 hx hby hZ e1 V1 (by decide) (Nat.le_of_ble_eq_true rfl) jd_52_21__31 (pc' := 32) rfl ?_
  intro T4 h4 X4 e4 W4 V4
  replace V4 : AV Z h4 b .byte [(.int (nar .byte (x0.toInt8.toInt32))), (.int (nar .byte (x1.toInt8.toInt32))), (.int (0 : Int32))] := V4
  have V5_a := V2_a.other W4 ne_a_b
  have N4 := Fr.snoc X4 N1 n0_b
  have K4 : Keep h0 h4 [b] := K1.wr W4 (Or.inl (List.mem_of_getElem? (i := 0) rfl))
  refine own_iinc X4 hx hby jd_52_21__32 rfl (v := (1 : Int32)) rfl (Ls' := #[.val (.ref a), .val (.int (2 : Int32)), .val (.ref b), .val (.int (1 : Int32)), .val (.int (3 : Int32)), .val (.int (1 : Int32)), .val (.int x1)]) rfl (pc' := 35) rfl ?_
  refine own_iinc X4 hx hby jd_52_21__35 rfl (v := (1 : Int32)) rfl (Ls' := #[.val (.ref a), .val (.int (2 : Int32)), .val (.ref b), .val (.int (2 : Int32)), .val (.int (3 : Int32)), .val (.int (1 : Int32)), .val (.int x1)]) rfl (pc' := 38) rfl ?_
  refine own_iinc X4 hx hby jd_52_21__38 rfl (v := (1 : Int32)) rfl (Ls' := #[.val (.ref a), .val (.int (2 : Int32)), .val (.ref b), .val (.int (2 : Int32)), .val (.int (3 : Int32)), .val (.int (2 : Int32)), .val (.int x1)]) rfl (pc' := 41) rfl ?_
  refine own_goto X4 hx hby jd_52_21__41 (by decide) (pc' := 3) (by decide) ?_
  refine own_iload X4 hx hby jd_52_21__3 rfl (pc' := 5) rfl ?_
  refine own_iload X4 hx hby jd_52_21__5 rfl (pc' := 7) rfl ?_
  refine own_icmpN X4 hx hby jd_52_21__7 (tlt (by decide)).2.1 (pc' := 10) rfl ?_
  refine own_aloadN X4 hx hby jd_52_21__10 rfl rfl (pc' := 11) rfl ?_
  refine own_iloadN X4 hx hby jd_52_21__11 rfl (pc' := 12) rfl ?_
  refine own_caload X4 hx hby hZ e4 V5_a (by decide) (v := (.int x2)) rfl jd_52_21__12 (pc' := 13) rfl ?_
  refine own_istore X4 hx hby jd_52_21__13  (Ls' := #[.val (.ref a), .val (.int (2 : Int32)), .val (.ref b), .val (.int (2 : Int32)), .val (.int (3 : Int32)), .val (.int (2 : Int32)), .val (.int x2)]) rfl (pc' := 15) rfl ?_
  refine own_iload X4 hx hby jd_52_21__15 rfl (pc' := 17) rfl ?_
  refine own_sipush X4 hx hby jd_52_21__17 (v := (255 : Int32)) rfl (pc' := 20) rfl ?_
  refine own_icmpY X4 hx hby jd_52_21__20 (flt hx2).2.2.2 (by decide) (pc' := 26) (by decide) ?_
  refine own_aloadN X4 hx hby jd_52_21__26 rfl rfl (pc' := 27) rfl ?_
  refine own_iloadN X4 hx hby jd_52_21__27 rfl (pc' := 28) rfl ?_
  refine own_iload X4 hx hby jd_52_21__28 rfl (pc' := 30) rfl ?_
  refine own_i2b X4 hx hby jd_52_21__30 (pc' := 31) rfl ?_
  refine own_bastoreB X4 hx hby hZ e4 V4 (by decide) (Nat.le_of_ble_eq_true rfl) jd_52_21__31 (pc' := 32) rfl ?_
  intro T7 h7 X7 e7 W7 V7
  replace V7 : AV Z h7 b .byte [(.int (nar .byte (x0.toInt8.toInt32))), (.int (nar .byte (x1.toInt8.toInt32))), (.int (nar .byte (x2.toInt8.toInt32)))] := V7
  have V8_a := V5_a.other W7 ne_a_b
  have N7 := Fr.snoc X7 N4 n0_b
  have K7 : Keep h0 h7 [b] := K4.wr W7 (Or.inl (List.mem_of_getElem? (i := 0) rfl))
  refine own_iinc X7 hx hby jd_52_21__32 rfl (v := (1 : Int32)) rfl (Ls' := #[.val (.ref a), .val (.int (3 : Int32)), .val (.ref b), .val (.int (2 : Int32)), .val (.int (3 : Int32)), .val (.int (2 : Int32)), .val (.int x2)]) rfl (pc' := 35) rfl ?_
  refine own_iinc X7 hx hby jd_52_21__35 rfl (v := (1 : Int32)) rfl (Ls' := #[.val (.ref a), .val (.int (3 : Int32)), .val (.ref b), .val (.int (3 : Int32)), .val (.int (3 : Int32)), .val (.int (2 : Int32)), .val (.int x2)]) rfl (pc' := 38) rfl ?_
  refine own_iinc X7 hx hby jd_52_21__38 rfl (v := (1 : Int32)) rfl (Ls' := #[.val (.ref a), .val (.int (3 : Int32)), .val (.ref b), .val (.int (3 : Int32)), .val (.int (3 : Int32)), .val (.int (3 : Int32)), .val (.int x2)]) rfl (pc' := 41) rfl ?_
  refine own_goto X7 hx hby jd_52_21__41 (by decide) (pc' := 3) (by decide) ?_
  refine own_iload X7 hx hby jd_52_21__3 rfl (pc' := 5) rfl ?_
  refine own_iload X7 hx hby jd_52_21__5 rfl (pc' := 7) rfl ?_
  refine own_icmpY X7 hx hby jd_52_21__7 (flt (by decide)).2.1 (by decide) (pc' := 44) (by decide) ?_
  refine own_iload X7 hx hby jd_52_21__44 rfl (pc' := 46) rfl ?_
  exact own_retI X7 hx hby fin hret jd_52_21__46 (by decide) (by decide) (by rw [e7]; exact ⟨rfl, N7, K7, V7⟩)
theorem ef_rmC3_3 (m : MethodId) (x0 : Addr) (x1 : Int32) (x2 : Int32) : entryFrame m #[(.ref x0), (.int x1), (.int x2)] 6 = mkF m 0 #[.val (.ref x0), .val (.int x1), .val (.int x2), .unset, .unset, .unset] [] := by first | (simp [entryFrame, mkF, argsToLocals, Value.category]; done) | rfl
set_option maxRecDepth 65536 in
set_option maxHeartbeats 40000000 in
theorem rmC3_3 (l : Launch) (Z : State) (a0 : Array Value) (hw : ∀ d ∈ tables_1, d.before a0 Z = true) (a : Addr) (x0 : Int32) (x1 : Int32) (x2 : Int32) (n0 : Nat) (h0 : Heap) (hx0 : ¬ (255 : Int32) < x0) (hx1 : ¬ (255 : Int32) < x1) (hx2 : ¬ (255 : Int32) < x2) (Z0 : n0 ≤ h0.size) (Va : AV Z h0 a .char [(.int x0), (.int x1), (.int x2)]) : Con l Z (⟨"java/lang/StringUTF16", "compress", "([CII)[B"⟩ : MethodName) jdk_52_method_16_code 6 (some (.array .byte)) [] ({ frames := 1, cells := 1, slots := 3, locals := 20 } : Room) #[(.ref a), (.int (0 : Int32)), (.int (3 : Int32))] h0 (fun v h L => ∃ b : Addr, v = some (.ref b) ∧ Fr n0 L ∧ Keep h0 h [] ∧ h0.size ≤ b ∧ AV Z h b .byte [(.int (nar .byte (x0.toInt8.toInt32))), (.int (nar .byte (x1.toInt8.toInt32))), (.int (nar .byte (x2.toInt8.toInt32)))]) := by
  refine Con.of (plainFor_of_name pn_java_lang_StringUTF16) ?_
  intro p e s m below meth c T X hx hby hml hown hnm hret eT hZ hsh Φ fin
  replace hown : s.vm.findClass "java/lang/StringUTF16" = some m.cls := hown
  replace hml : 6 = c.maxLocals := hml.symm
  refine own_step (fun tq kq => castTop (ef_rmC3_3 m a (0 : Int32) (3 : Int32)) kq) ?_
  have N0 := Fr.nil n0
  have K0 : Keep h0 h0 [] := Keep.refl h0 []
  refine own_iloadN X hx hby jd_52_16__0 rfl (pc' := 1) rfl ?_
  obtain ⟨T1, h1, k1, X1, e1, E1, A1, st1⟩ := newP X hx hZ (own_w hw 26 rfl) eT (g := (mkF m 1 #[.val (.ref a), .val (.int (0 : Int32)), .val (.int (3 : Int32)), .unset, .unset, .unset] [(.int (3 : Int32))])) rfl (hb hby jd_52_16__1) rfl (by decide) (cap := 3) (by decide) (by decide) (by decide) (by decide)
  obtain ⟨b1, g1⟩ : ∃ z, z = h0.size := ⟨_, rfl⟩
  have ne_a_b1 : a ≠ b1 := Nat.ne_of_lt (g1 ▸ Va.lt)
  have V2_a := Va.ext E1
  have Z1 : n0 ≤ h1.size := Nat.le_trans Z0 E1.1
  have n0_b1 : n0 ≤ b1 := g1 ▸ Z0
  have sz_b1 : h0.size ≤ b1 := g1 ▸ K0.1
  have K1 : Keep h0 h1 [] := K0.ext E1
  rw [← g1] at A1 st1
  refine own_step st1 ?_
  have V1 : AV Z h1 b1 .byte [(.int (0 : Int32)), (.int (0 : Int32)), (.int (0 : Int32))] := AV.new A1 (by decide)
  show GoP p e below Φ (T1.setTop (mkF m 3 #[.val (.ref a), .val (.int (0 : Int32)), .val (.int (3 : Int32)), .unset, .unset, .unset] [(.ref b1)]))
  refine own_astoreN X1 hx hby jd_52_16__3 rfl (Ls' := #[.val (.ref a), .val (.int (0 : Int32)), .val (.int (3 : Int32)), .val (.ref b1), .unset, .unset]) rfl (pc' := 4) rfl ?_
  refine own_aloadN X1 hx hby jd_52_16__4 rfl rfl (pc' := 5) rfl ?_
  refine own_iloadN X1 hx hby jd_52_16__5 rfl (pc' := 6) rfl ?_
  refine own_aloadN X1 hx hby jd_52_16__6 rfl rfl (pc' := 7) rfl ?_
  refine own_iconst X1 hx hby jd_52_16__7 (v := (0 : Int32)) rfl (pc' := 8) rfl ?_
  refine own_iloadN X1 hx hby jd_52_16__8 rfl (pc' := 9) rfl ?_
  refine own_callS X1 hx hby hZ (by exact hml) hown (own_w hw 27 rfl) (own_w hw 28 rfl) (own_w hw 24 rfl) (own_w hw 29 rfl) (by decide) e1 0 (by decide) (by decide) (by decide) (by decide) (argsL := [(.ref a), (.int (0 : Int32)), (.ref b1), (.int (0 : Int32)), (.int (3 : Int32))]) (rest := []) (lenOf pd___CI_BII_I rfl) rfl (rmC5_3 l Z a0 hw a b1 x0 x1 x2 n0 h1 hx0 hx1 hx2 n0_b1 ne_a_b1 V2_a V1) (Nat.le_of_eq rfl) jd_52_16__9 (pc' := 12) rfl ?_
  intro v3 T3 L3 X3 hQ3
  obtain ⟨rfl, Nq3, K3, V3⟩ := hQ3
  have V4_a := V2_a.keep K3 (ninS ne_a_b1 nin0)
  have N3 := Fr.app N0 Nq3
  have Z3 : n0 ≤ T3.heap.size := Nat.le_trans Z1 K3.1
  have KK3 : Keep h0 T3.heap [] := K1.trans K3 (allS (Or.inr sz_b1) all0)
  show GoP p e below Φ (T3.setTop (mkF m 12 #[.val (.ref a), .val (.int (0 : Int32)), .val (.int (3 : Int32)), .val (.ref b1), .unset, .unset] [(.int (3 : Int32))]))
  refine own_istore X3 hx hby jd_52_16__12  (Ls' := #[.val (.ref a), .val (.int (0 : Int32)), .val (.int (3 : Int32)), .val (.ref b1), .val (.int (3 : Int32)), .unset]) rfl (pc' := 14) rfl ?_
  refine own_iload X3 hx hby jd_52_16__14 rfl (pc' := 16) rfl ?_
  refine own_iloadN X3 hx hby jd_52_16__16 rfl (pc' := 17) rfl ?_
  refine own_icmpY X3 hx hby jd_52_16__17 (teq (by decide)).1 (by decide) (pc' := 57) (by decide) ?_
  refine own_aloadN X3 hx hby jd_52_16__57 rfl rfl (pc' := 58) rfl ?_
  exact own_retA X3 hx hby fin hret rfl rfl rfl jd_52_16__58 (by decide) (by decide) ⟨b1, rfl, N3, KK3, sz_b1, V3⟩
theorem ef_rmCF_3 (m : MethodId) (x0 : Addr) (x1 : Int32) : entryFrame m #[(.ref x0), (.int x1)] 2 = mkF m 0 #[.val (.ref x0), .val (.int x1)] [] := by first | (simp [entryFrame, mkF, argsToLocals, Value.category]; done) | rfl
set_option maxRecDepth 65536 in
set_option maxHeartbeats 40000000 in
theorem rmCF_3 (l : Launch) (Z : State) (a0 : Array Value) (hw : ∀ d ∈ tables_1, d.before a0 Z = true) (b : Addr) (x0 : Int32) (x1 : Int32) (x2 : Int32) (h0 : Heap) (V : AV Z h0 b .byte [(.int x0), (.int x1), (.int x2)]) : Con l Z (⟨"java/lang/StringUTF16", "coderFromArrayLen", "([BI)B"⟩ : MethodName) jdk_52_method_15_code 2 (some .byte) [] ({ frames := 0, cells := 0, slots := 0, locals := 0 } : Room) #[(.ref b), (.int (3 : Int32))] h0 (fun v h L => v = some (.int (0 : Int32)) ∧ L = [] ∧ h = h0) := by
  refine Con.of (plainFor_of_name pn_java_lang_StringUTF16) ?_
  intro p e s m below meth c T X hx hby hml hown hnm hret eT hZ hsh Φ fin
  replace hown : s.vm.findClass "java/lang/StringUTF16" = some m.cls := hown
  replace hml : 2 = c.maxLocals := hml.symm
  refine own_step (fun tq kq => castTop (ef_rmCF_3 m b (3 : Int32)) kq) ?_
  refine own_iloadN X hx hby jd_52_15__0 rfl (pc' := 1) rfl ?_
  refine own_aloadN X hx hby jd_52_15__1 rfl rfl (pc' := 2) rfl ?_
  refine own_alen X hx hby hZ eT (n := (3 : Int32)) V rfl jd_52_15__2 (pc' := 3) rfl ?_
  refine own_isub X hx hby jd_52_15__3 (pc' := 4) rfl ?_
  show GoP p e below Φ (T.setTop (mkF m 4 #[.val (.ref b), .val (.int (3 : Int32))] [(.int (0 : Int32))]))
  refine own_bipush X hx hby jd_52_15__4 (v := (31 : Int32)) rfl (pc' := 6) rfl ?_
  refine own_iushr X hx hby jd_52_15__6 (pc' := 7) rfl ?_
  show GoP p e below Φ (T.setTop (mkF m 7 #[.val (.ref b), .val (.int (3 : Int32))] [(.int (0 : Int32))]))
  refine own_i2b X hx hby jd_52_15__7 (pc' := 8) rfl ?_
  show GoP p e below Φ (T.setTop (mkF m 8 #[.val (.ref b), .val (.int (3 : Int32))] [(.int (0 : Int32))]))
  exact own_retN X hx hby fin hret (by simp) rfl jd_52_15__8 (by decide) (by decide) ⟨rfl, rfl, eT⟩
theorem ef_rmI5_3 (m : MethodId) (x0 : Addr) (x1 : Addr) (x2 : Int32) (x3 : Int32) : entryFrame m #[(.ref x0), (.ref x1), (.int x2), (.int x3), .null] 6 = mkF m 0 #[.val (.ref x0), .val (.ref x1), .val (.int x2), .val (.int x3), .val .null, .unset] [] := by first | (simp [entryFrame, mkF, argsToLocals, Value.category]; done) | rfl
set_option maxRecDepth 65536 in
set_option maxHeartbeats 40000000 in
theorem rmI5_3 (l : Launch) (Z : State) (a0 : Array Value) (hw : ∀ d ∈ tables_1, d.before a0 Z = true) (a ca : Addr) (cs : Int32) (x0 : Int32) (x1 : Int32) (x2 : Int32) (n0 : Nat) (h0 : Heap) (hcs : ¬ cs = (0 : Int32)) (hx0 : ¬ (255 : Int32) < x0) (hx1 : ¬ (255 : Int32) < x1) (hx2 : ¬ (255 : Int32) < x2) (n0_a : n0 ≤ a) (Z0 : n0 ≤ h0.size) (ne_a_ca : a ≠ ca) (Scs : Sta Z h0 "java/lang/String" "COMPACT_STRINGS" "Z" (.int cs)) (E : Exa Z h0 a "java/lang/String") (F : Fld Z h0 a "java/lang/String" "coder" "B" (.int (0 : Int32))) (G : Fld Z h0 a "java/lang/String" "value" "[B" .null) (Vc : AV Z h0 ca .char [(.int x0), (.int x1), (.int x2)]) : Con l Z (⟨"java/lang/String", "<init>", "([CIILjava/lang/Void;)V"⟩ : MethodName) jdk_42_method_149_code 6 none [] ({ frames := 2, cells := 1, slots := 3, locals := 40 } : Room) #[(.ref a), (.ref ca), (.int (0 : Int32)), (.int (3 : Int32)), .null] h0 (fun v h L => v = none ∧ Fr n0 L ∧ Keep h0 h [a] ∧ ∃ b : Addr, h0.size ≤ b ∧ Exa Z h a "java/lang/String" ∧ Fld Z h a "java/lang/String" "coder" "B" (.int (0 : Int32)) ∧ Fld Z h a "java/lang/String" "value" "[B" (.ref b) ∧ AV Z h b .byte [(.int (nar .byte (x0.toInt8.toInt32))), (.int (nar .byte (x1.toInt8.toInt32))), (.int (nar .byte (x2.toInt8.toInt32)))]) := by
  refine Con.of (plainFor_of_name pn_java_lang_String) ?_
  intro p e s m below meth c T X hx hby hml hown hnm hret eT hZ hsh Φ fin
  replace hown : s.vm.findClass "java/lang/String" = some m.cls := hown
  replace hml : 6 = c.maxLocals := hml.symm
  refine own_step (fun tq kq => castTop (ef_rmI5_3 m a ca (0 : Int32) (3 : Int32)) kq) ?_
  have N0 := Fr.nil n0
  have K0 : Keep h0 h0 [a] := Keep.refl h0 [a]
  refine own_aloadN X hx hby jd_42_149__0 rfl rfl (pc' := 1) rfl ?_
  obtain ⟨T1, X1, e1, st1⟩ := initO X hx hZ hown (own_w hw 18 rfl) (own_w hw 19 rfl) (own_w hw 20 rfl) eT (g := (mkF m 1 #[.val (.ref a), .val (.ref ca), .val (.int (0 : Int32)), .val (.int (3 : Int32)), .val .null, .unset] [(.ref a)])) rfl hml rfl (hb hby jd_42_149__1) (by decide) (W := 0) (by show 2 * 0 + _ ≤ _; exact Nat.le_of_eq rfl) (by decide)
  refine own_step st1 ?_
  show GoP p e below Φ (T1.setTop (mkF m 4 #[.val (.ref a), .val (.ref ca), .val (.int (0 : Int32)), .val (.int (3 : Int32)), .val .null, .unset] []))
  refine own_iloadN X1 hx hby jd_42_149__4 rfl (pc' := 5) rfl ?_
  refine own_ifY X1 hx hby jd_42_149__5 ((if0 _ _).trans (feq (by decide)).2) (by decide) (pc' := 27) (by decide) ?_
  refine own_getS X1 hx hby hZ hown (host := "") (Or.inl (own_w hw 21 rfl)) Via.refl e1 Scs jd_42_149__27 (pc' := 30) rfl ?_
  intro T2 X2 e2
  refine own_ifN X2 hx hby jd_42_149__30 ((if0 _ _).trans (feq hcs).1) (pc' := 33) rfl ?_
  refine own_aloadN X2 hx hby jd_42_149__33 rfl rfl (pc' := 34) rfl ?_
  refine own_iloadN X2 hx hby jd_42_149__34 rfl (pc' := 35) rfl ?_
  refine own_iloadN X2 hx hby jd_42_149__35 rfl (pc' := 36) rfl ?_
  refine own_callS X2 hx hby hZ (by exact hml) hown (own_w hw 22 rfl) (own_w hw 23 rfl) (own_w hw 24 rfl) (own_w hw 25 rfl) (by decide) e2 0 (by decide) (by decide) (by decide) (by decide) (argsL := [(.ref ca), (.int (0 : Int32)), (.int (3 : Int32))]) (rest := []) (lenOf pd___CII__B rfl) rfl (rmC3_3 l Z a0 hw ca x0 x1 x2 n0 h0 hx0 hx1 hx2 Z0 Vc) (Nat.le_of_eq rfl) jd_42_149__36 (pc' := 39) rfl ?_
  intro v3 T3 L3 X3 hQ3
  obtain ⟨bb3, rfl, Nq3, K3, sb3, V3⟩ := hQ3
  have ne_a_bb3 : a ≠ bb3 := Nat.ne_of_lt (Nat.lt_of_lt_of_le E.lt sb3)
  have szb : h0.size ≤ bb3 := Nat.le_trans K0.1 sb3
  have E4_a := E.keep K3
  have F5_coder := F.keep K3 nin0
  have F6_value := G.keep K3 nin0
  have N3 := Fr.app N0 Nq3
  have Z3 : n0 ≤ T3.heap.size := Nat.le_trans Z0 K3.1
  have KK3 : Keep h0 T3.heap [a] := K0.trans K3 all0
  show GoP p e below Φ (T3.setTop (mkF m 39 #[.val (.ref a), .val (.ref ca), .val (.int (0 : Int32)), .val (.int (3 : Int32)), .val .null, .unset] [(.ref bb3)]))
  refine own_astore X3 hx hby jd_42_149__39 rfl (Ls' := #[.val (.ref a), .val (.ref ca), .val (.int (0 : Int32)), .val (.int (3 : Int32)), .val .null, .val (.ref bb3)]) rfl (pc' := 41) rfl ?_
  refine own_aloadN X3 hx hby jd_42_149__41 rfl rfl (pc' := 42) rfl ?_
  refine own_aload X3 hx hby jd_42_149__42 rfl rfl (pc' := 44) rfl ?_
  refine own_iloadN X3 hx hby jd_42_149__44 rfl (pc' := 45) rfl ?_
  refine own_callS X3 hx hby hZ (by exact hml) hown (own_w hw 30 rfl) (own_w hw 31 rfl) (own_w hw 24 rfl) (own_w hw 32 rfl) (by decide) rfl 1 (by decide) (by decide) (by decide) (by decide) (argsL := [(.ref bb3), (.int (3 : Int32))]) (rest := [(.ref a)]) (lenOf pd___BI_B rfl) rfl (rmCF_3 l Z a0 hw bb3 (nar .byte (x0.toInt8.toInt32)) (nar .byte (x1.toInt8.toInt32)) (nar .byte (x2.toInt8.toInt32)) T3.heap V3) (Nat.le_of_eq rfl) jd_42_149__45 (pc' := 48) rfl ?_
  intro v7 T7 L7 X7 hQ7
  obtain ⟨rfl, rfl, e7⟩ := hQ7
  rw [List.append_nil] at X7
  replace e7 : T7.heap = T3.heap := e7
  show GoP p e below Φ (T7.setTop (mkF m 48 #[.val (.ref a), .val (.ref ca), .val (.int (0 : Int32)), .val (.int (3 : Int32)), .val .null, .val (.ref bb3)] [(.int (0 : Int32)), (.ref a)]))
  obtain ⟨T8, h8, X8, e8, W8, st8⟩ := putFN X7 hx hZ hown (own_w hw 33 rfl) Via.refl e7 F5_coder E4_a (Or.inr ⟨(own_w hw 34 rfl), rfl, hnm⟩) (own_w hw 5 rfl) (ty := .byte) (v' := (.int (0 : Int32))) (by decide) rfl (by decide) (g := (mkF m 48 #[.val (.ref a), .val (.ref ca), .val (.int (0 : Int32)), .val (.int (3 : Int32)), .val .null, .val (.ref bb3)] [(.int (0 : Int32)), (.ref a)])) rfl rfl (hb hby jd_42_149__48)
  refine own_step st8 ?_
  have E9_a := E4_a.wr W8
  have F10_coder := F5_coder.same W8
  have F11_value := F6_value.other W8 (Or.inr (slot_ne (Or.inr (own_w hw 36 rfl)) (Or.inr (own_w hw 34 rfl)) (by decide) (t := (.array .byte)) (t' := .byte) (by decide) (by decide)))
  have V12_bb3 := V3.other W8 (Ne.symm ne_a_bb3)
  have Z8 : n0 ≤ h8.size := by rw [W8.size]; exact Z3
  have N8 := Fr.snoc X8 N3 n0_a
  have K8 : Keep h0 h8 [a] := KK3.wr W8 (Or.inl (List.mem_of_getElem? (i := 0) rfl))
  show GoP p e below Φ (T8.setTop (mkF m 51 #[.val (.ref a), .val (.ref ca), .val (.int (0 : Int32)), .val (.int (3 : Int32)), .val .null, .val (.ref bb3)] []))
  refine own_aloadN X8 hx hby jd_42_149__51 rfl rfl (pc' := 52) rfl ?_
  refine own_aload X8 hx hby jd_42_149__52 rfl rfl (pc' := 54) rfl ?_
  refine own_putF X8 hx hby hZ hown (host := "") (Or.inl (own_w hw 35 rfl)) Via.refl e8 F11_value E9_a (Or.inr ⟨(own_w hw 36 rfl), rfl, hnm⟩) (own_w hw 5 rfl) (ty := (.array .byte)) (by decide) rfl rfl jd_42_149__54 (pc' := 57) rfl ?_
  intro T13 h13 X13 e13 W13
  have E14_a := E9_a.wr W13
  have F15_coder := F10_coder.other W13 (Or.inr (slot_ne (Or.inr (own_w hw 34 rfl)) (Or.inr (own_w hw 36 rfl)) (by decide) (t := .byte) (t' := (.array .byte)) (by decide) (by decide)))
  have F16_value := F11_value.same W13
  have V17_bb3 := V12_bb3.other W13 (Ne.symm ne_a_bb3)
  have Z13 : n0 ≤ h13.size := by rw [W13.size]; exact Z8
  have N13 := Fr.snoc X13 N8 n0_a
  have K13 : Keep h0 h13 [a] := K8.wr W13 (Or.inl (List.mem_of_getElem? (i := 0) rfl))
  exact own_ret0 X13 hx hby fin hret jd_42_149__57 (by decide) (by decide) (by rw [e13]; exact ⟨rfl, N13, K13, bb3, szb, E14_a, F15_coder, F16_value, V17_bb3⟩)
theorem ef_rmI1_3 (m : MethodId) (x0 : Addr) (x1 : Addr) : entryFrame m #[(.ref x0), (.ref x1)] 2 = mkF m 0 #[.val (.ref x0), .val (.ref x1)] [] := by first | (simp [entryFrame, mkF, argsToLocals, Value.category]; done) | rfl
set_option maxRecDepth 65536 in
set_option maxHeartbeats 40000000 in
theorem rmI1_3 (l : Launch) (Z : State) (a0 : Array Value) (hw : ∀ d ∈ tables_1, d.before a0 Z = true) (a ca : Addr) (cs : Int32) (x0 : Int32) (x1 : Int32) (x2 : Int32) (n0 : Nat) (h0 : Heap) (hcs : ¬ cs = (0 : Int32)) (hx0 : ¬ (255 : Int32) < x0) (hx1 : ¬ (255 : Int32) < x1) (hx2 : ¬ (255 : Int32) < x2) (n0_a : n0 ≤ a) (Z0 : n0 ≤ h0.size) (ne_a_ca : a ≠ ca) (Scs : Sta Z h0 "java/lang/String" "COMPACT_STRINGS" "Z" (.int cs)) (E : Exa Z h0 a "java/lang/String") (F : Fld Z h0 a "java/lang/String" "coder" "B" (.int (0 : Int32))) (G : Fld Z h0 a "java/lang/String" "value" "[B" .null) (Vc : AV Z h0 ca .char [(.int x0), (.int x1), (.int x2)]) : Con l Z (⟨"java/lang/String", "<init>", "([C)V"⟩ : MethodName) jdk_42_method_3_code 2 none [] ({ frames := 3, cells := 1, slots := 3, locals := 60 } : Room) #[(.ref a), (.ref ca)] h0 (fun v h L => v = none ∧ Fr n0 L ∧ Keep h0 h [a] ∧ ∃ b : Addr, h0.size ≤ b ∧ Exa Z h a "java/lang/String" ∧ Fld Z h a "java/lang/String" "coder" "B" (.int (0 : Int32)) ∧ Fld Z h a "java/lang/String" "value" "[B" (.ref b) ∧ AV Z h b .byte [(.int (nar .byte (x0.toInt8.toInt32))), (.int (nar .byte (x1.toInt8.toInt32))), (.int (nar .byte (x2.toInt8.toInt32)))]) := by
  refine Con.of (plainFor_of_name pn_java_lang_String) ?_
  intro p e s m below meth c T X hx hby hml hown hnm hret eT hZ hsh Φ fin
  replace hown : s.vm.findClass "java/lang/String" = some m.cls := hown
  replace hml : 2 = c.maxLocals := hml.symm
  refine own_step (fun tq kq => castTop (ef_rmI1_3 m a ca) kq) ?_
  have N0 := Fr.nil n0
  have K0 : Keep h0 h0 [a] := Keep.refl h0 [a]
  refine own_aloadN X hx hby jd_42_3__0 rfl rfl (pc' := 1) rfl ?_
  refine own_aloadN X hx hby jd_42_3__1 rfl rfl (pc' := 2) rfl ?_
  refine own_iconst X hx hby jd_42_3__2 (v := (0 : Int32)) rfl (pc' := 3) rfl ?_
  refine own_aloadN X hx hby jd_42_3__3 rfl rfl (pc' := 4) rfl ?_
  refine own_alen X hx hby hZ eT (n := (3 : Int32)) Vc rfl jd_42_3__4 (pc' := 5) rfl ?_
  refine own_aconst_null X hx hby jd_42_3__5 (pc' := 6) rfl ?_
  refine own_callI X hx hby hZ (by exact hml) hown rfl (own_w hw 14 rfl) (own_w hw 15 rfl) (own_w hw 6 rfl) (own_w hw 17 rfl) (by decide) eT 0 (by decide) (by decide) (by decide) (by decide) (argsL := [(.ref ca), (.int (0 : Int32)), (.int (3 : Int32)), .null]) (rest := []) (lenOf pd___CIILjava_lang_Void__V rfl) rfl (Nat.le_of_eq rfl) (rmI5_3 l Z a0 hw a ca cs x0 x1 x2 n0 h0 hcs hx0 hx1 hx2 n0_a Z0 ne_a_ca Scs E F G Vc) jd_42_3__6 (pc' := 9) rfl ?_
  intro v1 T1 L1 X1 hQ1
  obtain ⟨rfl, Nq1, K1, bb1, sb1, E1, FC1, FV1, V1⟩ := hQ1
  have N1 := Fr.app N0 Nq1
  have Z1 : n0 ≤ T1.heap.size := Nat.le_trans Z0 K1.1
  have KK1 : Keep h0 T1.heap [a] := K0.trans K1 (allS (Or.inl (List.mem_of_getElem? (i := 0) rfl)) all0)
  show GoP p e below Φ (T1.setTop (mkF m 9 #[.val (.ref a), .val (.ref ca)] []))
  exact own_ret0 X1 hx hby fin hret jd_42_3__9 (by decide) (by decide) ⟨rfl, N1, KK1, bb1, sb1, E1, FC1, FV1, V1⟩
theorem ef_rmCh (m : MethodId) (x0 : Int32) (x1 : Int32) : entryFrame m #[(.int x0), (.int x1)] 2 = mkF m 0 #[.val (.int x0), .val (.int x1)] [] := by first | (simp [entryFrame, mkF, argsToLocals, Value.category]; done) | rfl
theorem pn_com_example_mailhelm_mailhelm_model_SourceToStringPinLaw : plainName "com/example/mailhelm/mailhelm/model/SourceToStringPinLaw" = true := by first | (simp [plainName, overriddenIn]; done) | decide +kernel
theorem d_method_3_code_0 : decode method_3_code 0 = .ok (.iload_n 0, 1) := by decide +kernel
theorem d_method_3_code_1 : decode method_3_code 1 = .ok (.bipush 8, 2) := by decide +kernel
theorem d_method_3_code_3 : decode method_3_code 3 = .ok (.iload_n 1, 1) := by decide +kernel
theorem d_method_3_code_4 : decode method_3_code 4 = .ok (.imul, 1) := by decide +kernel
theorem d_method_3_code_5 : decode method_3_code 5 = .ok (.iushr, 1) := by decide +kernel
theorem d_method_3_code_6 : decode method_3_code 6 = .ok (.sipush 255, 3) := by decide +kernel
theorem d_method_3_code_9 : decode method_3_code 9 = .ok (.iand, 1) := by decide +kernel
theorem d_method_3_code_10 : decode method_3_code 10 = .ok (.i2c, 1) := by decide +kernel
theorem d_method_3_code_11 : decode method_3_code 11 = .ok (.ireturn, 1) := by decide +kernel
set_option maxRecDepth 65536 in
set_option maxHeartbeats 40000000 in
theorem rmCh (l : Launch) (Z : State) (a0 : Array Value) (hw : ∀ d ∈ tables_1, d.before a0 Z = true) (bits i : Int32) (h0 : Heap)  : Con l Z (⟨"com/example/mailhelm/mailhelm/model/SourceToStringPinLaw", "ch", "(II)C"⟩ : MethodName) method_3_code 2 (some .char) [] ({ frames := 0, cells := 0, slots := 0, locals := 0 } : Room) #[(.int bits), (.int i)] h0 (fun v h L => v = some (.int (own_chr bits i)) ∧ L = [] ∧ h = h0) := by
  refine Con.of (plainFor_of_name pn_com_example_mailhelm_mailhelm_model_SourceToStringPinLaw) ?_
  intro p e s m below meth c T X hx hby hml hown hnm hret eT hZ hsh Φ fin
  replace hown : s.vm.findClass "com/example/mailhelm/mailhelm/model/SourceToStringPinLaw" = some m.cls := hown
  replace hml : 2 = c.maxLocals := hml.symm
  refine own_step (fun tq kq => castTop (ef_rmCh m bits i) kq) ?_
  refine own_iloadN X hx hby d_method_3_code_0 rfl (pc' := 1) rfl ?_
  refine own_bipush X hx hby d_method_3_code_1 (v := (8 : Int32)) rfl (pc' := 3) rfl ?_
  refine own_iloadN X hx hby d_method_3_code_3 rfl (pc' := 4) rfl ?_
  refine own_imul X hx hby d_method_3_code_4 (pc' := 5) rfl ?_
  refine own_iushr X hx hby d_method_3_code_5 (pc' := 6) rfl ?_
  refine own_sipush X hx hby d_method_3_code_6 (v := (255 : Int32)) rfl (pc' := 9) rfl ?_
  refine own_iand X hx hby d_method_3_code_9 (pc' := 10) rfl ?_
  refine own_i2c X hx hby d_method_3_code_10 (pc' := 11) rfl ?_
  exact own_retN X hx hby fin hret (by simp) (own_narC _) d_method_3_code_11 (by decide) (by decide) ⟨rfl, rfl, eT⟩
theorem ef_rmI5_0 (m : MethodId) (x0 : Addr) (x1 : Addr) (x2 : Int32) (x3 : Int32) : entryFrame m #[(.ref x0), (.ref x1), (.int x2), (.int x3), .null] 6 = mkF m 0 #[.val (.ref x0), .val (.ref x1), .val (.int x2), .val (.int x3), .val .null, .unset] [] := by first | (simp [entryFrame, mkF, argsToLocals, Value.category]; done) | rfl
theorem jd_42_149__8 : decode jdk_42_method_149_code 8 = .ok (.aload_n 0, 1) := by decide +kernel
theorem jd_42_149__9 : decode jdk_42_method_149_code 9 = .ok (.ldc 7, 2) := by decide +kernel
theorem jd_42_149__11 : decode jdk_42_method_149_code 11 = .ok (.getfield 9, 3) := by decide +kernel
theorem jd_42_149__14 : decode jdk_42_method_149_code 14 = .ok (.putfield 9, 3) := by decide +kernel
theorem jd_42_149__17 : decode jdk_42_method_149_code 17 = .ok (.aload_n 0, 1) := by decide +kernel
theorem jd_42_149__18 : decode jdk_42_method_149_code 18 = .ok (.ldc 7, 2) := by decide +kernel
theorem jd_42_149__20 : decode jdk_42_method_149_code 20 = .ok (.getfield 15, 3) := by decide +kernel
theorem jd_42_149__23 : decode jdk_42_method_149_code 23 = .ok (.putfield 15, 3) := by decide +kernel
theorem jd_42_149__26 : decode jdk_42_method_149_code 26 = .ok (.return_, 1) := by decide +kernel
set_option maxRecDepth 65536 in
set_option maxHeartbeats 40000000 in
theorem rmI5_0 (l : Launch) (Z : State) (a0 : Array Value) (hw : ∀ d ∈ tables_1, d.before a0 Z = true) (a ca : Addr) (n0 : Nat) (h0 : Heap) (n0_a : n0 ≤ a) (Z0 : n0 ≤ h0.size) (hO : Ext Z.heap h0) (hh : Jvm.Lit.constHeld Z "java/lang/String" 7) (hcw : Jvm.Lit.compactW.before a0 Z = true) (E : Exa Z h0 a "java/lang/String") (F : Fld Z h0 a "java/lang/String" "coder" "B" (.int (0 : Int32))) (G : Fld Z h0 a "java/lang/String" "value" "[B" .null) : ConX l Z (⟨"java/lang/String", "<init>", "([CIILjava/lang/Void;)V"⟩ : MethodName) jdk_42_method_149_code 6 none [] ({ frames := 1, cells := 2, slots := 4, locals := 20 } : Room) #[(.ref a), (.ref ca), (.int (0 : Int32)), (.int (0 : Int32)), .null] h0 (LitT Z h0) (fun v h vm L => v = none ∧ Fr n0 L ∧ Keep h0 h [a] ∧ LitB Z h vm ∧ ∃ b : Addr, Exa Z h a "java/lang/String" ∧ Fld Z h a "java/lang/String" "coder" "B" (.int (0 : Int32)) ∧ Fld Z h a "java/lang/String" "value" "[B" (.ref b) ∧ AV Z h b .byte []) := by
  refine ConX.of (plainFor_of_name pn_java_lang_String) ?_
  intro p e s m below meth c T vm0 k0 X hx hby hml hown hnm hret eT hZ hsh hS hk hPv Φ fin
  replace hown : vm0.findClass "java/lang/String" = some m.cls := hown
  replace hml : 6 = c.maxLocals := hml.symm
  refine own_step (fun tq kq => castTop (ef_rmI5_0 m a ca (0 : Int32) (0 : Int32)) kq) ?_
  have N0 := Fr.nil n0
  have K0 : Keep h0 h0 [a] := Keep.refl h0 [a]
  refine own_aloadN X hx hby jd_42_149__0 rfl rfl (pc' := 1) rfl ?_
  obtain ⟨T1, X1, e1, st1⟩ := initO X hx hZ hown (own_w hw 18 rfl) (own_w hw 19 rfl) (own_w hw 20 rfl) eT (g := (mkF m 1 #[.val (.ref a), .val (.ref ca), .val (.int (0 : Int32)), .val (.int (0 : Int32)), .val .null, .unset] [(.ref a)])) rfl hml rfl (hb hby jd_42_149__1) (by decide) (W := 0) (by show 2 * 0 + _ ≤ _; exact Nat.le_of_eq rfl) (by decide)
  refine own_step st1 ?_
  show GoP p e below Φ (T1.setTop (mkF m 4 #[.val (.ref a), .val (.ref ca), .val (.int (0 : Int32)), .val (.int (0 : Int32)), .val .null, .unset] []))
  refine own_iloadN X1 hx hby jd_42_149__4 rfl (pc' := 5) rfl ?_
  refine own_ifN X1 hx hby jd_42_149__5 ((if0 _ _).trans (teq (by decide)).2) (pc' := 8) rfl ?_
  refine own_aloadN X1 hx hby jd_42_149__8 rfl rfl (pc' := 9) rfl ?_
  refine own_ldcT X1 hx hby hZ hown (own_w hw 37 rfl) (own_strs hw) e1 hS hk (Fr.nil _) (hsh.symm ▸ hO) hh hcw (bs := []) (z := (0 : Int32)) ⟨(by decide +kernel), rfl⟩ (by decide) (by decide +kernel) (Ts := []) (by simp) hPv jd_42_149__9 0 (by decide +kernel) (by decide) (by decide) (by decide) (pc' := 11) rfl ?_
  clear hS hk hZ hown
  intro aL bL T2 h2 vm2 k2 X2 e2 E2 hS hk hZ hown LL EL CL VL BL IL
  have E3_a := E.ext E2
  have F4_coder := F.ext E2
  have F5_value := G.ext E2
  have K2 : Keep h0 h2 [a] := K0.ext E2
  have Z2 : n0 ≤ h2.size := Nat.le_trans Z0 E2.1
  show GoP p e below Φ (T2.setTop (mkF m 11 #[.val (.ref a), .val (.ref ca), .val (.int (0 : Int32)), .val (.int (0 : Int32)), .val .null, .unset] [(.ref aL), (.ref a)]))
  have ne_a_aL : a ≠ aL := Fld.ne F5_value VL (by simp)
  have ne_a_bL : a ≠ bL := own_ne_av E3_a (own_w hw 5 rfl) BL
  refine own_getF X2 hx hby hZ hown (host := "") (Or.inl (own_w hw 35 rfl)) Via.refl e2 VL jd_42_149__11 (pc' := 14) rfl ?_
  intro T6 X6 e6
  refine own_putF X6 hx hby hZ hown (host := "") (Or.inl (own_w hw 35 rfl)) Via.refl e6 F5_value E3_a (Or.inr ⟨(own_w hw 36 rfl), rfl, hnm⟩) (own_w hw 5 rfl) (ty := (.array .byte)) (by decide) rfl rfl jd_42_149__14 (pc' := 17) rfl ?_
  intro T7 h7 X7 e7 W7
  have E8_a := E3_a.wr W7
  have F9_coder := F4_coder.other W7 (Or.inr (slot_ne (Or.inr (own_w hw 34 rfl)) (Or.inr (own_w hw 36 rfl)) (by decide) (t := .byte) (t' := (.array .byte)) (by decide) (by decide)))
  have F10_value := F5_value.same W7
  have E11_aL := EL.wr W7
  have F12_coder := CL.other W7 (Or.inl (Ne.symm ne_a_aL))
  have F13_value := VL.other W7 (Or.inl (Ne.symm ne_a_aL))
  have V14_bL := BL.other W7 (Ne.symm ne_a_bL)
  replace hk := W7.size.symm ▸ hk
  have Z7 : n0 ≤ h7.size := by rw [W7.size]; exact Z2
  have N7 := Fr.snoc X7 N0 n0_a
  have K7 : Keep h0 h7 [a] := K2.wr W7 (Or.inl (List.mem_of_getElem? (i := 0) rfl))
  refine own_aloadN X7 hx hby jd_42_149__17 rfl rfl (pc' := 18) rfl ?_
  refine own_ldcA X7 hx hby hZ hown (own_w hw 37 rfl) LL jd_42_149__18 (pc' := 20) rfl ?_
  refine own_getF X7 hx hby hZ hown (host := "") (Or.inl (own_w hw 33 rfl)) Via.refl e7 F12_coder jd_42_149__20 (pc' := 23) rfl ?_
  intro T15 X15 e15
  obtain ⟨T16, h16, X16, e16, W16, st16⟩ := putFN X15 hx hZ hown (own_w hw 33 rfl) Via.refl e15 F9_coder E8_a (Or.inr ⟨(own_w hw 34 rfl), rfl, hnm⟩) (own_w hw 5 rfl) (ty := .byte) (v' := (.int (0 : Int32))) (by decide) rfl (by decide) (g := (mkF m 23 #[.val (.ref a), .val (.ref ca), .val (.int (0 : Int32)), .val (.int (0 : Int32)), .val .null, .unset] [(.int (0 : Int32)), (.ref a)])) rfl rfl (hb hby jd_42_149__23)
  refine own_step st16 ?_
  have E17_a := E8_a.wr W16
  have F18_coder := F9_coder.same W16
  have F19_value := F10_value.other W16 (Or.inr (slot_ne (Or.inr (own_w hw 36 rfl)) (Or.inr (own_w hw 34 rfl)) (by decide) (t := (.array .byte)) (t' := .byte) (by decide) (by decide)))
  have E20_aL := E11_aL.wr W16
  have F21_coder := F12_coder.other W16 (Or.inl (Ne.symm ne_a_aL))
  have F22_value := F13_value.other W16 (Or.inl (Ne.symm ne_a_aL))
  have V23_bL := V14_bL.other W16 (Ne.symm ne_a_bL)
  replace hk := W16.size.symm ▸ hk
  have Z16 : n0 ≤ h16.size := by rw [W16.size]; exact Z7
  have N16 := Fr.snoc X16 N7 n0_a
  have K16 : Keep h0 h16 [a] := K7.wr W16 (Or.inl (List.mem_of_getElem? (i := 0) rfl))
  show GoP p e below Φ (T16.setTop (mkF m 26 #[.val (.ref a), .val (.ref ca), .val (.int (0 : Int32)), .val (.int (0 : Int32)), .val .null, .unset] []))
  exact own_ret0 X16 hx hby (fin _ _ hS) hret jd_42_149__26 (by decide) (by decide) ⟨(by rw [e16]; exact ⟨rfl, N16, K16, ⟨own_ib_stays (s := s) _ _ X16.warmed IL, aL, bL, own_litmove (s := s) LL X16.warmed, E20_aL, F21_coder, F22_value, V23_bL⟩, bL, E17_a, F18_coder, F19_value, V23_bL⟩), (by rw [e16]; exact hk)⟩
theorem ef_rmI1_0 (m : MethodId) (x0 : Addr) (x1 : Addr) : entryFrame m #[(.ref x0), (.ref x1)] 2 = mkF m 0 #[.val (.ref x0), .val (.ref x1)] [] := by first | (simp [entryFrame, mkF, argsToLocals, Value.category]; done) | rfl
set_option maxRecDepth 65536 in
set_option maxHeartbeats 40000000 in
theorem rmI1_0 (l : Launch) (Z : State) (a0 : Array Value) (hw : ∀ d ∈ tables_1, d.before a0 Z = true) (a ca : Addr) (n0 : Nat) (h0 : Heap) (n0_a : n0 ≤ a) (Z0 : n0 ≤ h0.size) (hO : Ext Z.heap h0) (hh : Jvm.Lit.constHeld Z "java/lang/String" 7) (hcw : Jvm.Lit.compactW.before a0 Z = true) (E : Exa Z h0 a "java/lang/String") (F : Fld Z h0 a "java/lang/String" "coder" "B" (.int (0 : Int32))) (G : Fld Z h0 a "java/lang/String" "value" "[B" .null) (Vc : AV Z h0 ca .char []) : ConX l Z (⟨"java/lang/String", "<init>", "([C)V"⟩ : MethodName) jdk_42_method_3_code 2 none [] ({ frames := 2, cells := 2, slots := 4, locals := 40 } : Room) #[(.ref a), (.ref ca)] h0 (LitT Z h0) (fun v h vm L => v = none ∧ Fr n0 L ∧ Keep h0 h [a] ∧ LitB Z h vm ∧ ∃ b : Addr, Exa Z h a "java/lang/String" ∧ Fld Z h a "java/lang/String" "coder" "B" (.int (0 : Int32)) ∧ Fld Z h a "java/lang/String" "value" "[B" (.ref b) ∧ AV Z h b .byte []) := by
  refine ConX.of (plainFor_of_name pn_java_lang_String) ?_
  intro p e s m below meth c T vm0 k0 X hx hby hml hown hnm hret eT hZ hsh hS hk hPv Φ fin
  replace hown : vm0.findClass "java/lang/String" = some m.cls := hown
  replace hml : 2 = c.maxLocals := hml.symm
  refine own_step (fun tq kq => castTop (ef_rmI1_0 m a ca) kq) ?_
  have N0 := Fr.nil n0
  have K0 : Keep h0 h0 [a] := Keep.refl h0 [a]
  refine own_aloadN X hx hby jd_42_3__0 rfl rfl (pc' := 1) rfl ?_
  refine own_aloadN X hx hby jd_42_3__1 rfl rfl (pc' := 2) rfl ?_
  refine own_iconst X hx hby jd_42_3__2 (v := (0 : Int32)) rfl (pc' := 3) rfl ?_
  refine own_aloadN X hx hby jd_42_3__3 rfl rfl (pc' := 4) rfl ?_
  refine own_alen X hx hby hZ eT (n := (0 : Int32)) Vc rfl jd_42_3__4 (pc' := 5) rfl ?_
  refine own_aconst_null X hx hby jd_42_3__5 (pc' := 6) rfl ?_
  refine own_callIX X hx hby hZ (by exact hml) hown rfl (own_w hw 14 rfl) (own_w hw 15 rfl) (own_w hw 6 rfl) (own_w hw 17 rfl) (by decide) eT 0 (by decide) (by decide) (by decide) (by decide) (argsL := [(.ref ca), (.int (0 : Int32)), (.int (0 : Int32)), .null]) (rest := []) (lenOf pd___CIILjava_lang_Void__V rfl) rfl (Nat.le_of_eq rfl) (rmI5_0 l Z a0 hw a ca n0 h0 n0_a Z0 hO hh hcw E F G) jd_42_3__6 (pc' := 9) rfl hS hk own_litT_stays hPv ?_
  clear hS hk hZ hown
  intro v1 T1 L1 X1 hS hk hZ hown hge1 hQ1
  obtain ⟨rfl, Nq1, K1, LB1, bb1, E1, FC1, FV1, V1⟩ := hQ1
  have N1 := Fr.app N0 Nq1
  have KK1 : Keep h0 T1.heap [a] := K0.trans K1 (allS (Or.inl (List.mem_of_getElem? (i := 0) rfl)) all0)
  show GoP p e below Φ (T1.setTop (mkF m 9 #[.val (.ref a), .val (.ref ca)] []))
  exact own_ret0 X1 hx hby (fin _ _ hS) hret jd_42_3__9 (by decide) (by decide) ⟨⟨rfl, N1, KK1, own_litB_stays (s := s) _ _ X1.warmed LB1, bb1, E1, FC1, FV1, V1⟩, hk⟩
theorem ef_rmMk (m : MethodId) (x0 : Int32) (x1 : Int32) : entryFrame m #[(.int x0), (.int x1)] 2 = mkF m 0 #[.val (.int x0), .val (.int x1)] [] := by first | (simp [entryFrame, mkF, argsToLocals, Value.category]; done) | rfl
theorem d_method_4_code_0 : decode method_4_code 0 = .ok (.iload_n 0, 1) := by decide +kernel
theorem d_method_4_code_1 : decode method_4_code 1 = .ok (.ifCond .ne 14, 3) := by decide +kernel
theorem d_method_4_code_4 : decode method_4_code 4 = .ok (.new 23, 3) := by decide +kernel
theorem d_method_4_code_7 : decode method_4_code 7 = .ok (.dup, 1) := by decide +kernel
theorem d_method_4_code_8 : decode method_4_code 8 = .ok (.iconst 0, 1) := by decide +kernel
theorem d_method_4_code_9 : decode method_4_code 9 = .ok (.newarray .char, 2) := by decide +kernel
theorem d_method_4_code_11 : decode method_4_code 11 = .ok (.invokespecial 36, 3) := by decide +kernel
theorem pd___C_V : parseMethodDescriptor "([C)V" = some ⟨[(.array .char)], none⟩ := by decide +kernel
theorem d_method_4_code_14 : decode method_4_code 14 = .ok (.areturn, 1) := by decide +kernel
theorem d_method_4_code_15 : decode method_4_code 15 = .ok (.iload_n 0, 1) := by decide +kernel
theorem d_method_4_code_16 : decode method_4_code 16 = .ok (.iconst 1, 1) := by decide +kernel
theorem d_method_4_code_17 : decode method_4_code 17 = .ok (.if_icmp .ne 22, 3) := by decide +kernel
theorem d_method_4_code_20 : decode method_4_code 20 = .ok (.new 23, 3) := by decide +kernel
theorem d_method_4_code_23 : decode method_4_code 23 = .ok (.dup, 1) := by decide +kernel
theorem d_method_4_code_24 : decode method_4_code 24 = .ok (.iconst 1, 1) := by decide +kernel
theorem d_method_4_code_25 : decode method_4_code 25 = .ok (.newarray .char, 2) := by decide +kernel
theorem d_method_4_code_27 : decode method_4_code 27 = .ok (.dup, 1) := by decide +kernel
theorem d_method_4_code_28 : decode method_4_code 28 = .ok (.iconst 0, 1) := by decide +kernel
theorem d_method_4_code_29 : decode method_4_code 29 = .ok (.iload_n 1, 1) := by decide +kernel
theorem d_method_4_code_30 : decode method_4_code 30 = .ok (.iconst 0, 1) := by decide +kernel
theorem d_method_4_code_31 : decode method_4_code 31 = .ok (.invokestatic 32, 3) := by decide +kernel
theorem pd__II_C : parseMethodDescriptor "(II)C" = some ⟨[.int, .int], some .char⟩ := by decide +kernel
theorem d_method_4_code_34 : decode method_4_code 34 = .ok (.castore, 1) := by decide +kernel
theorem d_method_4_code_35 : decode method_4_code 35 = .ok (.invokespecial 36, 3) := by decide +kernel
theorem d_method_4_code_38 : decode method_4_code 38 = .ok (.areturn, 1) := by decide +kernel
theorem d_method_4_code_39 : decode method_4_code 39 = .ok (.iload_n 0, 1) := by decide +kernel
theorem d_method_4_code_40 : decode method_4_code 40 = .ok (.iconst 2, 1) := by decide +kernel
theorem d_method_4_code_41 : decode method_4_code 41 = .ok (.if_icmp .ne 30, 3) := by decide +kernel
theorem d_method_4_code_44 : decode method_4_code 44 = .ok (.new 23, 3) := by decide +kernel
theorem d_method_4_code_47 : decode method_4_code 47 = .ok (.dup, 1) := by decide +kernel
theorem d_method_4_code_48 : decode method_4_code 48 = .ok (.iconst 2, 1) := by decide +kernel
theorem d_method_4_code_49 : decode method_4_code 49 = .ok (.newarray .char, 2) := by decide +kernel
theorem d_method_4_code_51 : decode method_4_code 51 = .ok (.dup, 1) := by decide +kernel
theorem d_method_4_code_52 : decode method_4_code 52 = .ok (.iconst 0, 1) := by decide +kernel
theorem d_method_4_code_53 : decode method_4_code 53 = .ok (.iload_n 1, 1) := by decide +kernel
theorem d_method_4_code_54 : decode method_4_code 54 = .ok (.iconst 0, 1) := by decide +kernel
theorem d_method_4_code_55 : decode method_4_code 55 = .ok (.invokestatic 32, 3) := by decide +kernel
theorem d_method_4_code_58 : decode method_4_code 58 = .ok (.castore, 1) := by decide +kernel
theorem d_method_4_code_59 : decode method_4_code 59 = .ok (.dup, 1) := by decide +kernel
theorem d_method_4_code_60 : decode method_4_code 60 = .ok (.iconst 1, 1) := by decide +kernel
theorem d_method_4_code_61 : decode method_4_code 61 = .ok (.iload_n 1, 1) := by decide +kernel
theorem d_method_4_code_62 : decode method_4_code 62 = .ok (.iconst 1, 1) := by decide +kernel
theorem d_method_4_code_63 : decode method_4_code 63 = .ok (.invokestatic 32, 3) := by decide +kernel
theorem d_method_4_code_66 : decode method_4_code 66 = .ok (.castore, 1) := by decide +kernel
theorem d_method_4_code_67 : decode method_4_code 67 = .ok (.invokespecial 36, 3) := by decide +kernel
theorem d_method_4_code_70 : decode method_4_code 70 = .ok (.areturn, 1) := by decide +kernel
theorem d_method_4_code_71 : decode method_4_code 71 = .ok (.new 23, 3) := by decide +kernel
theorem d_method_4_code_74 : decode method_4_code 74 = .ok (.dup, 1) := by decide +kernel
theorem d_method_4_code_75 : decode method_4_code 75 = .ok (.iconst 3, 1) := by decide +kernel
theorem d_method_4_code_76 : decode method_4_code 76 = .ok (.newarray .char, 2) := by decide +kernel
theorem d_method_4_code_78 : decode method_4_code 78 = .ok (.dup, 1) := by decide +kernel
theorem d_method_4_code_79 : decode method_4_code 79 = .ok (.iconst 0, 1) := by decide +kernel
theorem d_method_4_code_80 : decode method_4_code 80 = .ok (.iload_n 1, 1) := by decide +kernel
theorem d_method_4_code_81 : decode method_4_code 81 = .ok (.iconst 0, 1) := by decide +kernel
theorem d_method_4_code_82 : decode method_4_code 82 = .ok (.invokestatic 32, 3) := by decide +kernel
theorem d_method_4_code_85 : decode method_4_code 85 = .ok (.castore, 1) := by decide +kernel
theorem d_method_4_code_86 : decode method_4_code 86 = .ok (.dup, 1) := by decide +kernel
theorem d_method_4_code_87 : decode method_4_code 87 = .ok (.iconst 1, 1) := by decide +kernel
theorem d_method_4_code_88 : decode method_4_code 88 = .ok (.iload_n 1, 1) := by decide +kernel
theorem d_method_4_code_89 : decode method_4_code 89 = .ok (.iconst 1, 1) := by decide +kernel
theorem d_method_4_code_90 : decode method_4_code 90 = .ok (.invokestatic 32, 3) := by decide +kernel
theorem d_method_4_code_93 : decode method_4_code 93 = .ok (.castore, 1) := by decide +kernel
theorem d_method_4_code_94 : decode method_4_code 94 = .ok (.dup, 1) := by decide +kernel
theorem d_method_4_code_95 : decode method_4_code 95 = .ok (.iconst 2, 1) := by decide +kernel
theorem d_method_4_code_96 : decode method_4_code 96 = .ok (.iload_n 1, 1) := by decide +kernel
theorem d_method_4_code_97 : decode method_4_code 97 = .ok (.iconst 2, 1) := by decide +kernel
theorem d_method_4_code_98 : decode method_4_code 98 = .ok (.invokestatic 32, 3) := by decide +kernel
theorem d_method_4_code_101 : decode method_4_code 101 = .ok (.castore, 1) := by decide +kernel
theorem d_method_4_code_102 : decode method_4_code 102 = .ok (.invokespecial 36, 3) := by decide +kernel
theorem d_method_4_code_105 : decode method_4_code 105 = .ok (.areturn, 1) := by decide +kernel
set_option maxRecDepth 65536 in
set_option maxHeartbeats 40000000 in
theorem rmMk (l : Launch) (Z : State) (a0 : Array Value) (hw : ∀ d ∈ tables_1, d.before a0 Z = true) (len bits cs : Int32) (n0 : Nat) (h0 : Heap) (Z0 : n0 ≤ h0.size) (O0 : Old Z n0 h0) (hh : Jvm.Lit.constHeld Z "java/lang/String" 7) (hcw : Jvm.Lit.compactW.before a0 Z = true) (hcs : ¬ cs = (0 : Int32)) (Scs : Sta Z h0 "java/lang/String" "COMPACT_STRINGS" "Z" (.int cs)) : ConX l Z (⟨"com/example/mailhelm/mailhelm/model/SourceToStringPinLaw", "mk", "(II)Ljava/lang/String;"⟩ : MethodName) method_4_code 2 (some (.object "java/lang/String")) [] ({ frames := 4, cells := 4, slots := 16, locals := 110 } : Room) #[(.int len), (.int bits)] h0 (LitT Z h0) (fun v h vm L => ∃ a b : Addr, v = some (.ref a) ∧ Fr n0 L ∧ Keep h0 h [] ∧ h0.size ≤ a ∧ Exa Z h a "java/lang/String" ∧ Fld Z h a "java/lang/String" "coder" "B" (.int (0 : Int32)) ∧ Fld Z h a "java/lang/String" "value" "[B" (.ref b) ∧ AV Z h b .byte (own_mkb len bits) ∧ LitT Z h vm) := by
  refine ConX.of (plainFor_of_name pn_com_example_mailhelm_mailhelm_model_SourceToStringPinLaw) ?_
  intro p e s m below meth c T vm0 k0 X hx hby hml hown hnm hret eT hZ hsh hS hk hPv Φ fin
  replace hown : vm0.findClass "com/example/mailhelm/mailhelm/model/SourceToStringPinLaw" = some m.cls := hown
  replace hml : 2 = c.maxLocals := hml.symm
  refine own_step (fun tq kq => castTop (ef_rmMk m len bits) kq) ?_
  have N0 := Fr.nil n0
  have K0 : Keep h0 h0 [] := Keep.refl h0 []
  refine own_iloadN X hx hby d_method_4_code_0 rfl (pc' := 1) rfl ?_
  by_cases hc1_1 : len = (0 : Int32)
  · refine own_ifN X hx hby d_method_4_code_1 ((if0 _ _).trans (teq hc1_1).2) (pc' := 4) rfl ?_
    obtain ⟨T2, h2, X2, e2, E2, A2, D2, -, st2⟩ := newO X hx hZ hown (own_w hw 4 rfl) (own_w hw 5 rfl) (own_w hw 6 rfl) eT (g := (mkF m 4 #[.val (.int len), .val (.int bits)] [])) rfl (hb hby d_method_4_code_4) (by decide) (by decide)
    obtain ⟨b2, g2⟩ : ∃ z, z = h0.size := ⟨_, rfl⟩
    have S3_COMPACT_STRINGS := Scs.ext E2
    replace hk := Nat.le_trans hk E2.1
    have Z2 : n0 ≤ h2.size := Nat.le_trans Z0 E2.1
    have n0_b2 : n0 ≤ b2 := g2 ▸ Z0
    have O2 := O0.ext E2
    have sz_b2 : h0.size ≤ b2 := g2 ▸ K0.1
    have K2 : Keep h0 h2 [] := K0.ext E2
    rw [← g2] at A2 D2 st2
    refine own_step st2 ?_
    have F2_coder : Fld Z h2 b2 "java/lang/String" "coder" "B" (.int (0 : Int32)) := D2 (Or.inr (own_w hw 34 rfl)) (ty := .byte) (by decide)
    have F2_value : Fld Z h2 b2 "java/lang/String" "value" "[B" .null := D2 (Or.inr (own_w hw 36 rfl)) (ty := (.array .byte)) (by decide)
    show GoP p e below Φ (T2.setTop (mkF m 7 #[.val (.int len), .val (.int bits)] [(.ref b2)]))
    refine own_dup X2 hx hby d_method_4_code_7 rfl (pc' := 8) rfl ?_
    refine own_iconst X2 hx hby d_method_4_code_8 (v := (0 : Int32)) rfl (pc' := 9) rfl ?_
    obtain ⟨T4, h4, k4, X4, e4, E4, A4, st4⟩ := newP X2 hx hZ (own_w hw 7 rfl) e2 (g := (mkF m 9 #[.val (.int len), .val (.int bits)] [(.int (0 : Int32)), (.ref b2), (.ref b2)])) rfl (hb hby d_method_4_code_9) rfl (by decide) (cap := 0) (by decide) (by decide) (by decide) (by decide)
    obtain ⟨b4, g4⟩ : ∃ z, z = h2.size := ⟨_, rfl⟩
    have ne_b2_b4 : b2 ≠ b4 := Nat.ne_of_lt (g4 ▸ A2.lt)
    have S5_COMPACT_STRINGS := S3_COMPACT_STRINGS.ext E4
    have E6_b2 := A2.ext E4
    have F7_coder := F2_coder.ext E4
    have F8_value := F2_value.ext E4
    replace hk := Nat.le_trans hk E4.1
    have Z4 : n0 ≤ h4.size := Nat.le_trans Z2 E4.1
    have n0_b4 : n0 ≤ b4 := g4 ▸ Z2
    have O4 := O2.ext E4
    have sz_b4 : h0.size ≤ b4 := g4 ▸ K2.1
    have K4 : Keep h0 h4 [] := K2.ext E4
    rw [← g4] at A4 st4
    refine own_step st4 ?_
    have V4 : AV Z h4 b4 .char [] := AV.new A4 (by decide)
    show GoP p e below Φ (T4.setTop (mkF m 11 #[.val (.int len), .val (.int bits)] [(.ref b4), (.ref b2), (.ref b2)]))
    refine own_callIX X4 hx hby hZ (by exact hml) hown rfl (own_w hw 11 rfl) (own_w hw 12 rfl) (own_w hw 6 rfl) (own_w hw 13 rfl) (by decide) e4 1 (by decide) (by decide) (by decide) (by decide) (argsL := [(.ref b4)]) (rest := [(.ref b2)]) (lenOf pd___C_V rfl) rfl (Nat.le_of_eq rfl) (rmI1_0 l Z a0 hw b2 b4 n0 h4 n0_b2 Z4 O4.2 hh hcw E6_b2 F7_coder F8_value V4) d_method_4_code_11 (pc' := 14) rfl hS hk own_litT_stays (LitT.keep hPv K4 (fun _ u => nomatch u)) ?_
    clear hS hk hZ hown
    intro v9 T9 L9 X9 hS hk hZ hown hge9 hQ9
    obtain ⟨rfl, Nq9, K9, LB9, bb9, E9, FC9, FV9, V9⟩ := hQ9
    have N9 := Fr.app N0 Nq9
    have Z9 : n0 ≤ T9.heap.size := Nat.le_trans Z4 K9.1
    have KK9 : Keep h0 T9.heap [] := K4.trans K9 (allS (Or.inr sz_b2) all0)
    show GoP p e below Φ (T9.setTop (mkF m 14 #[.val (.int len), .val (.int bits)] [(.ref b2)]))
    exact own_retA X9 hx hby (fin _ _ hS) hret rfl rfl rfl d_method_4_code_14 (by decide) (by decide) ⟨⟨b2, bb9, rfl, N9, KK9, sz_b2, E9, FC9, FV9, (by rw [own_mkb, if_pos hc1_1]; exact V9), (Or.inr (own_litB_stays (s := s) _ _ X9.warmed LB9))⟩, hk⟩
  · refine own_ifY X hx hby d_method_4_code_1 ((if0 _ _).trans (feq hc1_1).2) (by decide) (pc' := 15) (by decide) ?_
    refine own_iloadN X hx hby d_method_4_code_15 rfl (pc' := 16) rfl ?_
    refine own_iconst X hx hby d_method_4_code_16 (v := (1 : Int32)) rfl (pc' := 17) rfl ?_
    by_cases hc17_10 : len = (1 : Int32)
    · refine own_icmpN X hx hby d_method_4_code_17 (teq hc17_10).2 (pc' := 20) rfl ?_
      obtain ⟨T11, h11, X11, e11, E11, A11, D11, -, st11⟩ := newO X hx hZ hown (own_w hw 4 rfl) (own_w hw 5 rfl) (own_w hw 6 rfl) eT (g := (mkF m 20 #[.val (.int len), .val (.int bits)] [])) rfl (hb hby d_method_4_code_20) (by decide) (by decide)
      obtain ⟨b11, g11⟩ : ∃ z, z = h0.size := ⟨_, rfl⟩
      have S12_COMPACT_STRINGS := Scs.ext E11
      replace hk := Nat.le_trans hk E11.1
      have Z11 : n0 ≤ h11.size := Nat.le_trans Z0 E11.1
      have n0_b11 : n0 ≤ b11 := g11 ▸ Z0
      have O11 := O0.ext E11
      have sz_b11 : h0.size ≤ b11 := g11 ▸ K0.1
      have K11 : Keep h0 h11 [] := K0.ext E11
      rw [← g11] at A11 D11 st11
      refine own_step st11 ?_
      have F11_coder : Fld Z h11 b11 "java/lang/String" "coder" "B" (.int (0 : Int32)) := D11 (Or.inr (own_w hw 34 rfl)) (ty := .byte) (by decide)
      have F11_value : Fld Z h11 b11 "java/lang/String" "value" "[B" .null := D11 (Or.inr (own_w hw 36 rfl)) (ty := (.array .byte)) (by decide)
      show GoP p e below Φ (T11.setTop (mkF m 23 #[.val (.int len), .val (.int bits)] [(.ref b11)]))
      refine own_dup X11 hx hby d_method_4_code_23 rfl (pc' := 24) rfl ?_
      refine own_iconst X11 hx hby d_method_4_code_24 (v := (1 : Int32)) rfl (pc' := 25) rfl ?_
      obtain ⟨T13, h13, k13, X13, e13, E13, A13, st13⟩ := newP X11 hx hZ (own_w hw 7 rfl) e11 (g := (mkF m 25 #[.val (.int len), .val (.int bits)] [(.int (1 : Int32)), (.ref b11), (.ref b11)])) rfl (hb hby d_method_4_code_25) rfl (by decide) (cap := 1) (by decide) (by decide) (by decide) (by decide)
      obtain ⟨b13, g13⟩ : ∃ z, z = h11.size := ⟨_, rfl⟩
      have ne_b11_b13 : b11 ≠ b13 := Nat.ne_of_lt (g13 ▸ A11.lt)
      have S14_COMPACT_STRINGS := S12_COMPACT_STRINGS.ext E13
      have E15_b11 := A11.ext E13
      have F16_coder := F11_coder.ext E13
      have F17_value := F11_value.ext E13
      replace hk := Nat.le_trans hk E13.1
      have Z13 : n0 ≤ h13.size := Nat.le_trans Z11 E13.1
      have n0_b13 : n0 ≤ b13 := g13 ▸ Z11
      have O13 := O11.ext E13
      have sz_b13 : h0.size ≤ b13 := g13 ▸ K11.1
      have K13 : Keep h0 h13 [] := K11.ext E13
      rw [← g13] at A13 st13
      refine own_step st13 ?_
      have V13 : AV Z h13 b13 .char [(.int (0 : Int32))] := AV.new A13 (by decide)
      show GoP p e below Φ (T13.setTop (mkF m 27 #[.val (.int len), .val (.int bits)] [(.ref b13), (.ref b11), (.ref b11)]))
      refine own_dup X13 hx hby d_method_4_code_27 rfl (pc' := 28) rfl ?_
      refine own_iconst X13 hx hby d_method_4_code_28 (v := (0 : Int32)) rfl (pc' := 29) rfl ?_
      refine own_iloadN X13 hx hby d_method_4_code_29 rfl (pc' := 30) rfl ?_
      refine own_iconst X13 hx hby d_method_4_code_30 (v := (0 : Int32)) rfl (pc' := 31) rfl ?_
      refine own_callS X13 hx hby hZ (by exact hml) hown (own_w hw 8 rfl) (own_w hw 9 rfl) (own_w hw 2 rfl) (own_w hw 10 rfl) (by decide) e13 5 (by decide) (by decide) (by decide) (by decide) (argsL := [(.int bits), (.int (0 : Int32))]) (rest := [(.int (0 : Int32)), (.ref b13), (.ref b13), (.ref b11), (.ref b11)]) (lenOf pd__II_C rfl) rfl (rmCh l Z a0 hw bits (0 : Int32) h13) (Nat.le_of_eq rfl) d_method_4_code_31 (pc' := 34) rfl ?_
      intro v18 T18 L18 X18 hQ18
      obtain ⟨rfl, rfl, e18⟩ := hQ18
      rw [List.append_nil] at X18
      replace e18 : T18.heap = h13 := e18
      show GoP p e below Φ (T18.setTop (mkF m 34 #[.val (.int len), .val (.int bits)] [(.int (own_chr bits (0 : Int32))), (.int (0 : Int32)), (.ref b13), (.ref b13), (.ref b11), (.ref b11)]))
      refine own_castore X18 hx hby hZ e18 V13 (by decide) (Nat.le_of_ble_eq_true rfl) d_method_4_code_34 (pc' := 35) rfl ?_
      intro T19 h19 X19 e19 W19 V19
      replace V19 : AV Z h19 b13 .char [(.int (nar .char (own_chr bits (0 : Int32))))] := V19
      have S20_COMPACT_STRINGS := S14_COMPACT_STRINGS.wr W19
      have E21_b11 := E15_b11.wr W19
      have F22_coder := F16_coder.other W19 (Or.inl ne_b11_b13)
      have F23_value := F17_value.other W19 (Or.inl ne_b11_b13)
      replace hk := W19.size.symm ▸ hk
      have Z19 : n0 ≤ h19.size := by rw [W19.size]; exact Z13
      have O19 := O13.wr W19 n0_b13
      have N19 := Fr.snoc X19 N0 n0_b13
      have K19 : Keep h0 h19 [] := K13.wr W19 (Or.inr sz_b13)
      refine own_callI X19 hx hby hZ (by exact hml) hown rfl (own_w hw 11 rfl) (own_w hw 12 rfl) (own_w hw 6 rfl) (own_w hw 13 rfl) (by decide) e19 1 (by decide) (by decide) (by decide) (by decide) (argsL := [(.ref b13)]) (rest := [(.ref b11)]) (lenOf pd___C_V rfl) rfl (Nat.le_of_eq rfl) (rmI1_1 l Z a0 hw b11 b13 cs (nar .char (own_chr bits (0 : Int32))) n0 h19 hcs (own_chrN bits (0 : Int32)) n0_b11 Z19 ne_b11_b13 S20_COMPACT_STRINGS E21_b11 F22_coder F23_value V19) d_method_4_code_35 (pc' := 38) rfl ?_
      intro v25 T25 L25 X25 hQ25
      obtain ⟨rfl, Nq25, K25, bb25, sb25, E25, FC25, FV25, V25⟩ := hQ25
      have N25 := Fr.app N19 Nq25
      have Z25 : n0 ≤ T25.heap.size := Nat.le_trans Z19 K25.1
      have KK25 : Keep h0 T25.heap [] := K19.trans K25 (allS (Or.inr sz_b11) all0)
      replace hk := Nat.le_trans hk K25.1
      show GoP p e below Φ (T25.setTop (mkF m 38 #[.val (.int len), .val (.int bits)] [(.ref b11)]))
      exact own_retA X25 hx hby (fin _ _ hS) hret rfl rfl rfl d_method_4_code_38 (by decide) (by decide) ⟨⟨b11, bb25, rfl, N25, KK25, sz_b11, E25, FC25, FV25, (by rw [own_mkb, if_neg hc1_1, if_pos hc17_10]; exact V25), ((own_litT_stays (s := s) _ _ X25.warmed hPv).keep KK25 (fun _ u => nomatch u))⟩, hk⟩
    · refine own_icmpY X hx hby d_method_4_code_17 (feq hc17_10).2 (by decide) (pc' := 39) (by decide) ?_
      refine own_iloadN X hx hby d_method_4_code_39 rfl (pc' := 40) rfl ?_
      refine own_iconst X hx hby d_method_4_code_40 (v := (2 : Int32)) rfl (pc' := 41) rfl ?_
      by_cases hc41_26 : len = (2 : Int32)
      · refine own_icmpN X hx hby d_method_4_code_41 (teq hc41_26).2 (pc' := 44) rfl ?_
        obtain ⟨T27, h27, X27, e27, E27, A27, D27, -, st27⟩ := newO X hx hZ hown (own_w hw 4 rfl) (own_w hw 5 rfl) (own_w hw 6 rfl) eT (g := (mkF m 44 #[.val (.int len), .val (.int bits)] [])) rfl (hb hby d_method_4_code_44) (by decide) (by decide)
        obtain ⟨b27, g27⟩ : ∃ z, z = h0.size := ⟨_, rfl⟩
        have S28_COMPACT_STRINGS := Scs.ext E27
        replace hk := Nat.le_trans hk E27.1
        have Z27 : n0 ≤ h27.size := Nat.le_trans Z0 E27.1
        have n0_b27 : n0 ≤ b27 := g27 ▸ Z0
        have O27 := O0.ext E27
        have sz_b27 : h0.size ≤ b27 := g27 ▸ K0.1
        have K27 : Keep h0 h27 [] := K0.ext E27
        rw [← g27] at A27 D27 st27
        refine own_step st27 ?_
        have F27_coder : Fld Z h27 b27 "java/lang/String" "coder" "B" (.int (0 : Int32)) := D27 (Or.inr (own_w hw 34 rfl)) (ty := .byte) (by decide)
        have F27_value : Fld Z h27 b27 "java/lang/String" "value" "[B" .null := D27 (Or.inr (own_w hw 36 rfl)) (ty := (.array .byte)) (by decide)
        show GoP p e below Φ (T27.setTop (mkF m 47 #[.val (.int len), .val (.int bits)] [(.ref b27)]))
        refine own_dup X27 hx hby d_method_4_code_47 rfl (pc' := 48) rfl ?_
        refine own_iconst X27 hx hby d_method_4_code_48 (v := (2 : Int32)) rfl (pc' := 49) rfl ?_
        obtain ⟨T29, h29, k29, X29, e29, E29, A29, st29⟩ := newP X27 hx hZ (own_w hw 7 rfl) e27 (g := (mkF m 49 #[.val (.int len), .val (.int bits)] [(.int (2 : Int32)), (.ref b27), (.ref b27)])) rfl (hb hby d_method_4_code_49) rfl (by decide) (cap := 2) (by decide) (by decide) (by decide) (by decide)
        obtain ⟨b29, g29⟩ : ∃ z, z = h27.size := ⟨_, rfl⟩
        have ne_b27_b29 : b27 ≠ b29 := Nat.ne_of_lt (g29 ▸ A27.lt)
        have S30_COMPACT_STRINGS := S28_COMPACT_STRINGS.ext E29
        have E31_b27 := A27.ext E29
        have F32_coder := F27_coder.ext E29
        have F33_value := F27_value.ext E29
        replace hk := Nat.le_trans hk E29.1
        have Z29 : n0 ≤ h29.size := Nat.le_trans Z27 E29.1
        have n0_b29 : n0 ≤ b29 := g29 ▸ Z27
        have O29 := O27.ext E29
        have sz_b29 : h0.size ≤ b29 := g29 ▸ K27.1
        have K29 : Keep h0 h29 [] := K27.ext E29
        rw [← g29] at A29 st29
        refine own_step st29 ?_
        have V29 : AV Z h29 b29 .char [(.int (0 : Int32)), (.int (0 : Int32))] := AV.new A29 (by decide)
        show GoP p e below Φ (T29.setTop (mkF m 51 #[.val (.int len), .val (.int bits)] [(.ref b29), (.ref b27), (.ref b27)]))
        refine own_dup X29 hx hby d_method_4_code_51 rfl (pc' := 52) rfl ?_
        refine own_iconst X29 hx hby d_method_4_code_52 (v := (0 : Int32)) rfl (pc' := 53) rfl ?_
        refine own_iloadN X29 hx hby d_method_4_code_53 rfl (pc' := 54) rfl ?_
        refine own_iconst X29 hx hby d_method_4_code_54 (v := (0 : Int32)) rfl (pc' := 55) rfl ?_
        refine own_callS X29 hx hby hZ (by exact hml) hown (own_w hw 8 rfl) (own_w hw 9 rfl) (own_w hw 2 rfl) (own_w hw 10 rfl) (by decide) e29 5 (by decide) (by decide) (by decide) (by decide) (argsL := [(.int bits), (.int (0 : Int32))]) (rest := [(.int (0 : Int32)), (.ref b29), (.ref b29), (.ref b27), (.ref b27)]) (lenOf pd__II_C rfl) rfl (rmCh l Z a0 hw bits (0 : Int32) h29) (Nat.le_of_eq rfl) d_method_4_code_55 (pc' := 58) rfl ?_
        intro v34 T34 L34 X34 hQ34
        obtain ⟨rfl, rfl, e34⟩ := hQ34
        rw [List.append_nil] at X34
        replace e34 : T34.heap = h29 := e34
        show GoP p e below Φ (T34.setTop (mkF m 58 #[.val (.int len), .val (.int bits)] [(.int (own_chr bits (0 : Int32))), (.int (0 : Int32)), (.ref b29), (.ref b29), (.ref b27), (.ref b27)]))
        refine own_castore X34 hx hby hZ e34 V29 (by decide) (Nat.le_of_ble_eq_true rfl) d_method_4_code_58 (pc' := 59) rfl ?_
        intro T35 h35 X35 e35 W35 V35
        replace V35 : AV Z h35 b29 .char [(.int (nar .char (own_chr bits (0 : Int32)))), (.int (0 : Int32))] := V35
        have S36_COMPACT_STRINGS := S30_COMPACT_STRINGS.wr W35
        have E37_b27 := E31_b27.wr W35
        have F38_coder := F32_coder.other W35 (Or.inl ne_b27_b29)
        have F39_value := F33_value.other W35 (Or.inl ne_b27_b29)
        replace hk := W35.size.symm ▸ hk
        have Z35 : n0 ≤ h35.size := by rw [W35.size]; exact Z29
        have O35 := O29.wr W35 n0_b29
        have N35 := Fr.snoc X35 N0 n0_b29
        have K35 : Keep h0 h35 [] := K29.wr W35 (Or.inr sz_b29)
        refine own_dup X35 hx hby d_method_4_code_59 rfl (pc' := 60) rfl ?_
        refine own_iconst X35 hx hby d_method_4_code_60 (v := (1 : Int32)) rfl (pc' := 61) rfl ?_
        refine own_iloadN X35 hx hby d_method_4_code_61 rfl (pc' := 62) rfl ?_
        refine own_iconst X35 hx hby d_method_4_code_62 (v := (1 : Int32)) rfl (pc' := 63) rfl ?_
        refine own_callS X35 hx hby hZ (by exact hml) hown (own_w hw 8 rfl) (own_w hw 9 rfl) (own_w hw 2 rfl) (own_w hw 10 rfl) (by decide) e35 5 (by decide) (by decide) (by decide) (by decide) (argsL := [(.int bits), (.int (1 : Int32))]) (rest := [(.int (1 : Int32)), (.ref b29), (.ref b29), (.ref b27), (.ref b27)]) (lenOf pd__II_C rfl) rfl (rmCh l Z a0 hw bits (1 : Int32) h35) (Nat.le_of_eq rfl) d_method_4_code_63 (pc' := 66) rfl ?_
        intro v41 T41 L41 X41 hQ41
        obtain ⟨rfl, rfl, e41⟩ := hQ41
        rw [List.append_nil] at X41
        replace e41 : T41.heap = h35 := e41
        show GoP p e below Φ (T41.setTop (mkF m 66 #[.val (.int len), .val (.int bits)] [(.int (own_chr bits (1 : Int32))), (.int (1 : Int32)), (.ref b29), (.ref b29), (.ref b27), (.ref b27)]))
        refine own_castore X41 hx hby hZ e41 V35 (by decide) (Nat.le_of_ble_eq_true rfl) d_method_4_code_66 (pc' := 67) rfl ?_
        intro T42 h42 X42 e42 W42 V42
        replace V42 : AV Z h42 b29 .char [(.int (nar .char (own_chr bits (0 : Int32)))), (.int (nar .char (own_chr bits (1 : Int32))))] := V42
        have S43_COMPACT_STRINGS := S36_COMPACT_STRINGS.wr W42
        have E44_b27 := E37_b27.wr W42
        have F45_coder := F38_coder.other W42 (Or.inl ne_b27_b29)
        have F46_value := F39_value.other W42 (Or.inl ne_b27_b29)
        replace hk := W42.size.symm ▸ hk
        have Z42 : n0 ≤ h42.size := by rw [W42.size]; exact Z35
        have O42 := O35.wr W42 n0_b29
        have N42 := Fr.snoc X42 N35 n0_b29
        have K42 : Keep h0 h42 [] := K35.wr W42 (Or.inr sz_b29)
        refine own_callI X42 hx hby hZ (by exact hml) hown rfl (own_w hw 11 rfl) (own_w hw 12 rfl) (own_w hw 6 rfl) (own_w hw 13 rfl) (by decide) e42 1 (by decide) (by decide) (by decide) (by decide) (argsL := [(.ref b29)]) (rest := [(.ref b27)]) (lenOf pd___C_V rfl) rfl (Nat.le_of_eq rfl) (rmI1_2 l Z a0 hw b27 b29 cs (nar .char (own_chr bits (0 : Int32))) (nar .char (own_chr bits (1 : Int32))) n0 h42 hcs (own_chrN bits (0 : Int32)) (own_chrN bits (1 : Int32)) n0_b27 Z42 ne_b27_b29 S43_COMPACT_STRINGS E44_b27 F45_coder F46_value V42) d_method_4_code_67 (pc' := 70) rfl ?_
        intro v48 T48 L48 X48 hQ48
        obtain ⟨rfl, Nq48, K48, bb48, sb48, E48, FC48, FV48, V48⟩ := hQ48
        have N48 := Fr.app N42 Nq48
        have Z48 : n0 ≤ T48.heap.size := Nat.le_trans Z42 K48.1
        have KK48 : Keep h0 T48.heap [] := K42.trans K48 (allS (Or.inr sz_b27) all0)
        replace hk := Nat.le_trans hk K48.1
        show GoP p e below Φ (T48.setTop (mkF m 70 #[.val (.int len), .val (.int bits)] [(.ref b27)]))
        exact own_retA X48 hx hby (fin _ _ hS) hret rfl rfl rfl d_method_4_code_70 (by decide) (by decide) ⟨⟨b27, bb48, rfl, N48, KK48, sz_b27, E48, FC48, FV48, (by rw [own_mkb, if_neg hc1_1, if_neg hc17_10, if_pos hc41_26]; exact V48), ((own_litT_stays (s := s) _ _ X48.warmed hPv).keep KK48 (fun _ u => nomatch u))⟩, hk⟩
      · refine own_icmpY X hx hby d_method_4_code_41 (feq hc41_26).2 (by decide) (pc' := 71) (by decide) ?_
        obtain ⟨T49, h49, X49, e49, E49, A49, D49, -, st49⟩ := newO X hx hZ hown (own_w hw 4 rfl) (own_w hw 5 rfl) (own_w hw 6 rfl) eT (g := (mkF m 71 #[.val (.int len), .val (.int bits)] [])) rfl (hb hby d_method_4_code_71) (by decide) (by decide)
        obtain ⟨b49, g49⟩ : ∃ z, z = h0.size := ⟨_, rfl⟩
        have S50_COMPACT_STRINGS := Scs.ext E49
        replace hk := Nat.le_trans hk E49.1
        have Z49 : n0 ≤ h49.size := Nat.le_trans Z0 E49.1
        have n0_b49 : n0 ≤ b49 := g49 ▸ Z0
        have O49 := O0.ext E49
        have sz_b49 : h0.size ≤ b49 := g49 ▸ K0.1
        have K49 : Keep h0 h49 [] := K0.ext E49
        rw [← g49] at A49 D49 st49
        refine own_step st49 ?_
        have F49_coder : Fld Z h49 b49 "java/lang/String" "coder" "B" (.int (0 : Int32)) := D49 (Or.inr (own_w hw 34 rfl)) (ty := .byte) (by decide)
        have F49_value : Fld Z h49 b49 "java/lang/String" "value" "[B" .null := D49 (Or.inr (own_w hw 36 rfl)) (ty := (.array .byte)) (by decide)
        show GoP p e below Φ (T49.setTop (mkF m 74 #[.val (.int len), .val (.int bits)] [(.ref b49)]))
        refine own_dup X49 hx hby d_method_4_code_74 rfl (pc' := 75) rfl ?_
        refine own_iconst X49 hx hby d_method_4_code_75 (v := (3 : Int32)) rfl (pc' := 76) rfl ?_
        obtain ⟨T51, h51, k51, X51, e51, E51, A51, st51⟩ := newP X49 hx hZ (own_w hw 7 rfl) e49 (g := (mkF m 76 #[.val (.int len), .val (.int bits)] [(.int (3 : Int32)), (.ref b49), (.ref b49)])) rfl (hb hby d_method_4_code_76) rfl (by decide) (cap := 3) (by decide) (by decide) (by decide) (by decide)
        obtain ⟨b51, g51⟩ : ∃ z, z = h49.size := ⟨_, rfl⟩
        have ne_b49_b51 : b49 ≠ b51 := Nat.ne_of_lt (g51 ▸ A49.lt)
        have S52_COMPACT_STRINGS := S50_COMPACT_STRINGS.ext E51
        have E53_b49 := A49.ext E51
        have F54_coder := F49_coder.ext E51
        have F55_value := F49_value.ext E51
        replace hk := Nat.le_trans hk E51.1
        have Z51 : n0 ≤ h51.size := Nat.le_trans Z49 E51.1
        have n0_b51 : n0 ≤ b51 := g51 ▸ Z49
        have O51 := O49.ext E51
        have sz_b51 : h0.size ≤ b51 := g51 ▸ K49.1
        have K51 : Keep h0 h51 [] := K49.ext E51
        rw [← g51] at A51 st51
        refine own_step st51 ?_
        have V51 : AV Z h51 b51 .char [(.int (0 : Int32)), (.int (0 : Int32)), (.int (0 : Int32))] := AV.new A51 (by decide)
        show GoP p e below Φ (T51.setTop (mkF m 78 #[.val (.int len), .val (.int bits)] [(.ref b51), (.ref b49), (.ref b49)]))
        refine own_dup X51 hx hby d_method_4_code_78 rfl (pc' := 79) rfl ?_
        refine own_iconst X51 hx hby d_method_4_code_79 (v := (0 : Int32)) rfl (pc' := 80) rfl ?_
        refine own_iloadN X51 hx hby d_method_4_code_80 rfl (pc' := 81) rfl ?_
        refine own_iconst X51 hx hby d_method_4_code_81 (v := (0 : Int32)) rfl (pc' := 82) rfl ?_
        refine own_callS X51 hx hby hZ (by exact hml) hown (own_w hw 8 rfl) (own_w hw 9 rfl) (own_w hw 2 rfl) (own_w hw 10 rfl) (by decide) e51 5 (by decide) (by decide) (by decide) (by decide) (argsL := [(.int bits), (.int (0 : Int32))]) (rest := [(.int (0 : Int32)), (.ref b51), (.ref b51), (.ref b49), (.ref b49)]) (lenOf pd__II_C rfl) rfl (rmCh l Z a0 hw bits (0 : Int32) h51) (Nat.le_of_eq rfl) d_method_4_code_82 (pc' := 85) rfl ?_
        intro v56 T56 L56 X56 hQ56
        obtain ⟨rfl, rfl, e56⟩ := hQ56
        rw [List.append_nil] at X56
        replace e56 : T56.heap = h51 := e56
        show GoP p e below Φ (T56.setTop (mkF m 85 #[.val (.int len), .val (.int bits)] [(.int (own_chr bits (0 : Int32))), (.int (0 : Int32)), (.ref b51), (.ref b51), (.ref b49), (.ref b49)]))
        refine own_castore X56 hx hby hZ e56 V51 (by decide) (Nat.le_of_ble_eq_true rfl) d_method_4_code_85 (pc' := 86) rfl ?_
        intro T57 h57 X57 e57 W57 V57
        replace V57 : AV Z h57 b51 .char [(.int (nar .char (own_chr bits (0 : Int32)))), (.int (0 : Int32)), (.int (0 : Int32))] := V57
        have S58_COMPACT_STRINGS := S52_COMPACT_STRINGS.wr W57
        have E59_b49 := E53_b49.wr W57
        have F60_coder := F54_coder.other W57 (Or.inl ne_b49_b51)
        have F61_value := F55_value.other W57 (Or.inl ne_b49_b51)
        replace hk := W57.size.symm ▸ hk
        have Z57 : n0 ≤ h57.size := by rw [W57.size]; exact Z51
        have O57 := O51.wr W57 n0_b51
        have N57 := Fr.snoc X57 N0 n0_b51
        have K57 : Keep h0 h57 [] := K51.wr W57 (Or.inr sz_b51)
        refine own_dup X57 hx hby d_method_4_code_86 rfl (pc' := 87) rfl ?_
        refine own_iconst X57 hx hby d_method_4_code_87 (v := (1 : Int32)) rfl (pc' := 88) rfl ?_
        refine own_iloadN X57 hx hby d_method_4_code_88 rfl (pc' := 89) rfl ?_
        refine own_iconst X57 hx hby d_method_4_code_89 (v := (1 : Int32)) rfl (pc' := 90) rfl ?_
        refine own_callS X57 hx hby hZ (by exact hml) hown (own_w hw 8 rfl) (own_w hw 9 rfl) (own_w hw 2 rfl) (own_w hw 10 rfl) (by decide) e57 5 (by decide) (by decide) (by decide) (by decide) (argsL := [(.int bits), (.int (1 : Int32))]) (rest := [(.int (1 : Int32)), (.ref b51), (.ref b51), (.ref b49), (.ref b49)]) (lenOf pd__II_C rfl) rfl (rmCh l Z a0 hw bits (1 : Int32) h57) (Nat.le_of_eq rfl) d_method_4_code_90 (pc' := 93) rfl ?_
        intro v63 T63 L63 X63 hQ63
        obtain ⟨rfl, rfl, e63⟩ := hQ63
        rw [List.append_nil] at X63
        replace e63 : T63.heap = h57 := e63
        show GoP p e below Φ (T63.setTop (mkF m 93 #[.val (.int len), .val (.int bits)] [(.int (own_chr bits (1 : Int32))), (.int (1 : Int32)), (.ref b51), (.ref b51), (.ref b49), (.ref b49)]))
        refine own_castore X63 hx hby hZ e63 V57 (by decide) (Nat.le_of_ble_eq_true rfl) d_method_4_code_93 (pc' := 94) rfl ?_
        intro T64 h64 X64 e64 W64 V64
        replace V64 : AV Z h64 b51 .char [(.int (nar .char (own_chr bits (0 : Int32)))), (.int (nar .char (own_chr bits (1 : Int32)))), (.int (0 : Int32))] := V64
        have S65_COMPACT_STRINGS := S58_COMPACT_STRINGS.wr W64
        have E66_b49 := E59_b49.wr W64
        have F67_coder := F60_coder.other W64 (Or.inl ne_b49_b51)
        have F68_value := F61_value.other W64 (Or.inl ne_b49_b51)
        replace hk := W64.size.symm ▸ hk
        have Z64 : n0 ≤ h64.size := by rw [W64.size]; exact Z57
        have O64 := O57.wr W64 n0_b51
        have N64 := Fr.snoc X64 N57 n0_b51
        have K64 : Keep h0 h64 [] := K57.wr W64 (Or.inr sz_b51)
        refine own_dup X64 hx hby d_method_4_code_94 rfl (pc' := 95) rfl ?_
        refine own_iconst X64 hx hby d_method_4_code_95 (v := (2 : Int32)) rfl (pc' := 96) rfl ?_
        refine own_iloadN X64 hx hby d_method_4_code_96 rfl (pc' := 97) rfl ?_
        refine own_iconst X64 hx hby d_method_4_code_97 (v := (2 : Int32)) rfl (pc' := 98) rfl ?_
        refine own_callS X64 hx hby hZ (by exact hml) hown (own_w hw 8 rfl) (own_w hw 9 rfl) (own_w hw 2 rfl) (own_w hw 10 rfl) (by decide) e64 5 (by decide) (by decide) (by decide) (by decide) (argsL := [(.int bits), (.int (2 : Int32))]) (rest := [(.int (2 : Int32)), (.ref b51), (.ref b51), (.ref b49), (.ref b49)]) (lenOf pd__II_C rfl) rfl (rmCh l Z a0 hw bits (2 : Int32) h64) (Nat.le_of_eq rfl) d_method_4_code_98 (pc' := 101) rfl ?_
        intro v70 T70 L70 X70 hQ70
        obtain ⟨rfl, rfl, e70⟩ := hQ70
        rw [List.append_nil] at X70
        replace e70 : T70.heap = h64 := e70
        show GoP p e below Φ (T70.setTop (mkF m 101 #[.val (.int len), .val (.int bits)] [(.int (own_chr bits (2 : Int32))), (.int (2 : Int32)), (.ref b51), (.ref b51), (.ref b49), (.ref b49)]))
        refine own_castore X70 hx hby hZ e70 V64 (by decide) (Nat.le_of_ble_eq_true rfl) d_method_4_code_101 (pc' := 102) rfl ?_
        intro T71 h71 X71 e71 W71 V71
        replace V71 : AV Z h71 b51 .char [(.int (nar .char (own_chr bits (0 : Int32)))), (.int (nar .char (own_chr bits (1 : Int32)))), (.int (nar .char (own_chr bits (2 : Int32))))] := V71
        have S72_COMPACT_STRINGS := S65_COMPACT_STRINGS.wr W71
        have E73_b49 := E66_b49.wr W71
        have F74_coder := F67_coder.other W71 (Or.inl ne_b49_b51)
        have F75_value := F68_value.other W71 (Or.inl ne_b49_b51)
        replace hk := W71.size.symm ▸ hk
        have Z71 : n0 ≤ h71.size := by rw [W71.size]; exact Z64
        have O71 := O64.wr W71 n0_b51
        have N71 := Fr.snoc X71 N64 n0_b51
        have K71 : Keep h0 h71 [] := K64.wr W71 (Or.inr sz_b51)
        refine own_callI X71 hx hby hZ (by exact hml) hown rfl (own_w hw 11 rfl) (own_w hw 12 rfl) (own_w hw 6 rfl) (own_w hw 13 rfl) (by decide) e71 1 (by decide) (by decide) (by decide) (by decide) (argsL := [(.ref b51)]) (rest := [(.ref b49)]) (lenOf pd___C_V rfl) rfl (Nat.le_of_eq rfl) (rmI1_3 l Z a0 hw b49 b51 cs (nar .char (own_chr bits (0 : Int32))) (nar .char (own_chr bits (1 : Int32))) (nar .char (own_chr bits (2 : Int32))) n0 h71 hcs (own_chrN bits (0 : Int32)) (own_chrN bits (1 : Int32)) (own_chrN bits (2 : Int32)) n0_b49 Z71 ne_b49_b51 S72_COMPACT_STRINGS E73_b49 F74_coder F75_value V71) d_method_4_code_102 (pc' := 105) rfl ?_
        intro v77 T77 L77 X77 hQ77
        obtain ⟨rfl, Nq77, K77, bb77, sb77, E77, FC77, FV77, V77⟩ := hQ77
        have N77 := Fr.app N71 Nq77
        have Z77 : n0 ≤ T77.heap.size := Nat.le_trans Z71 K77.1
        have KK77 : Keep h0 T77.heap [] := K71.trans K77 (allS (Or.inr sz_b49) all0)
        replace hk := Nat.le_trans hk K77.1
        show GoP p e below Φ (T77.setTop (mkF m 105 #[.val (.int len), .val (.int bits)] [(.ref b49)]))
        exact own_retA X77 hx hby (fin _ _ hS) hret rfl rfl rfl d_method_4_code_105 (by decide) (by decide) ⟨⟨b49, bb77, rfl, N77, KK77, sz_b49, E77, FC77, FV77, (by rw [own_mkb, if_neg hc1_1, if_neg hc17_10, if_neg hc41_26]; exact V77), ((own_litT_stays (s := s) _ _ X77.warmed hPv).keep KK77 (fun _ u => nomatch u))⟩, hk⟩
theorem ef_rmRc (m : MethodId) (x0 : Addr) : entryFrame m #[(.ref x0)] 1 = mkF m 0 #[.val (.ref x0)] [] := by first | (simp [entryFrame, mkF, argsToLocals, Value.category]; done) | rfl
theorem pn_java_lang_Record : plainName "java/lang/Record" = true := by first | (simp [plainName, overriddenIn]; done) | decide +kernel
theorem jd_30_1__0 : decode jdk_30_method_1_code 0 = .ok (.aload_n 0, 1) := by decide +kernel
theorem jd_30_1__1 : decode jdk_30_method_1_code 1 = .ok (.invokespecial 1, 3) := by decide +kernel
theorem jd_30_1__4 : decode jdk_30_method_1_code 4 = .ok (.return_, 1) := by decide +kernel
set_option maxRecDepth 65536 in
set_option maxHeartbeats 40000000 in
theorem rmRc (l : Launch) (Z : State) (a0 : Array Value) (hw : ∀ d ∈ tables_1, d.before a0 Z = true) (a : Addr) (h0 : Heap)  : Con l Z (⟨"java/lang/Record", "<init>", "()V"⟩ : MethodName) jdk_30_method_1_code 1 none [] ({ frames := 1, cells := 0, slots := 0, locals := 12 } : Room) #[(.ref a)] h0 (fun v h L => v = none ∧ L = [] ∧ h = h0) := by
  refine Con.of (plainFor_of_name pn_java_lang_Record) ?_
  intro p e s m below meth c T X hx hby hml hown hnm hret eT hZ hsh Φ fin
  replace hown : s.vm.findClass "java/lang/Record" = some m.cls := hown
  replace hml : 1 = c.maxLocals := hml.symm
  refine own_step (fun tq kq => castTop (ef_rmRc m a) kq) ?_
  refine own_aloadN X hx hby jd_30_1__0 rfl rfl (pc' := 1) rfl ?_
  obtain ⟨T1, X1, e1, st1⟩ := initO X hx hZ hown (own_w hw 51 rfl) (own_w hw 19 rfl) (own_w hw 20 rfl) eT (g := (mkF m 1 #[.val (.ref a)] [(.ref a)])) rfl hml rfl (hb hby jd_30_1__1) (by decide) (W := 0) (by show 2 * 0 + _ ≤ _; exact Nat.le_of_eq rfl) (by decide)
  refine own_step st1 ?_
  show GoP p e below Φ (T1.setTop (mkF m 4 #[.val (.ref a)] []))
  exact own_ret0 X1 hx hby fin hret jd_30_1__4 (by decide) (by decide) ⟨rfl, rfl, e1⟩
theorem ef_rmRN (m : MethodId) (x0 : Addr) (x1 : Addr) : entryFrame m #[(.ref x0), (.ref x1)] 2 = mkF m 0 #[.val (.ref x0), .val (.ref x1)] [] := by first | (simp [entryFrame, mkF, argsToLocals, Value.category]; done) | rfl
theorem pn_java_util_Objects : plainName "java/util/Objects" = true := by first | (simp [plainName, overriddenIn]; done) | decide +kernel
theorem jd_31_11__0 : decode jdk_31_method_11_code 0 = .ok (.aload_n 0, 1) := by decide +kernel
theorem jd_31_11__1 : decode jdk_31_method_11_code 1 = .ok (.ifnonnull 12, 3) := by decide +kernel
theorem jd_31_11__13 : decode jdk_31_method_11_code 13 = .ok (.aload_n 0, 1) := by decide +kernel
theorem jd_31_11__14 : decode jdk_31_method_11_code 14 = .ok (.areturn, 1) := by decide +kernel
set_option maxRecDepth 65536 in
set_option maxHeartbeats 40000000 in
theorem rmRN (l : Launch) (Z : State) (a0 : Array Value) (hw : ∀ d ∈ tables_1, d.before a0 Z = true) (a b : Addr) (h0 : Heap)  : Con l Z (⟨"java/util/Objects", "requireNonNull", "(Ljava/lang/Object;Ljava/lang/String;)Ljava/lang/Object;"⟩ : MethodName) jdk_31_method_11_code 2 (some (.object "java/lang/Object")) [] ({ frames := 0, cells := 0, slots := 0, locals := 0 } : Room) #[(.ref a), (.ref b)] h0 (fun v h L => v = some (.ref a) ∧ L = [] ∧ h = h0) := by
  refine Con.of (plainFor_of_name pn_java_util_Objects) ?_
  intro p e s m below meth c T X hx hby hml hown hnm hret eT hZ hsh Φ fin
  replace hown : s.vm.findClass "java/util/Objects" = some m.cls := hown
  replace hml : 2 = c.maxLocals := hml.symm
  refine own_step (fun tq kq => castTop (ef_rmRN m a b) kq) ?_
  refine own_aloadN X hx hby jd_31_11__0 rfl rfl (pc' := 1) rfl ?_
  refine own_ifnonnullY X hx hby jd_31_11__1 (by decide) (pc' := 13) (by decide) ?_
  refine own_aloadN X hx hby jd_31_11__13 rfl rfl (pc' := 14) rfl ?_
  exact own_retA X hx hby fin hret rfl rfl rfl jd_31_11__14 (by decide) (by decide) ⟨rfl, rfl, eT⟩
theorem ef_rmSI (m : MethodId) (x0 : Addr) (x1 : Addr) (x2 : Addr) : entryFrame m #[(.ref x0), (.ref x1), (.ref x2)] 3 = mkF m 0 #[.val (.ref x0), .val (.ref x1), .val (.ref x2)] [] := by first | (simp [entryFrame, mkF, argsToLocals, Value.category]; done) | rfl
theorem pn_com_example_mailhelm_mailhelm_model_Source : plainName "com/example/mailhelm/mailhelm/model/Source" = true := by first | (simp [plainName, overriddenIn]; done) | decide +kernel
theorem own_tx1 : (∀ c ∈ "name".toList, c.toNat < 256) ∧ (4 : Int32).toNatClampNeg = "name".toList.length ∧ 4 * "name".toList.length ≤ 16 := by decide +kernel
theorem own_tx2 : (∀ c ∈ "location".toList, c.toNat < 256) ∧ (8 : Int32).toNatClampNeg = "location".toList.length ∧ 4 * "location".toList.length ≤ 32 := by decide +kernel
theorem d_26_1__0 : decode prog_26_method_1_code 0 = .ok (.aload_n 0, 1) := by decide +kernel
theorem d_26_1__1 : decode prog_26_method_1_code 1 = .ok (.invokespecial 1, 3) := by decide +kernel
theorem pd___V : parseMethodDescriptor "()V" = some ⟨[], none⟩ := by decide +kernel
theorem d_26_1__4 : decode prog_26_method_1_code 4 = .ok (.aload_n 1, 1) := by decide +kernel
theorem d_26_1__5 : decode prog_26_method_1_code 5 = .ok (.ldc 7, 2) := by decide +kernel
theorem d_26_1__7 : decode prog_26_method_1_code 7 = .ok (.invokestatic 9, 3) := by decide +kernel
theorem pd__Ljava_lang_Object_Ljava_lang_String__Ljava_lang_Object_ : parseMethodDescriptor "(Ljava/lang/Object;Ljava/lang/String;)Ljava/lang/Object;" = some ⟨[(.object "java/lang/Object"), (.object "java/lang/String")], some (.object "java/lang/Object")⟩ := by decide +kernel
theorem d_26_1__10 : decode prog_26_method_1_code 10 = .ok (.pop, 1) := by decide +kernel
theorem d_26_1__11 : decode prog_26_method_1_code 11 = .ok (.aload_n 2, 1) := by decide +kernel
theorem d_26_1__12 : decode prog_26_method_1_code 12 = .ok (.ldc 15, 2) := by decide +kernel
theorem d_26_1__14 : decode prog_26_method_1_code 14 = .ok (.invokestatic 9, 3) := by decide +kernel
theorem d_26_1__17 : decode prog_26_method_1_code 17 = .ok (.pop, 1) := by decide +kernel
theorem d_26_1__18 : decode prog_26_method_1_code 18 = .ok (.aload_n 0, 1) := by decide +kernel
theorem d_26_1__19 : decode prog_26_method_1_code 19 = .ok (.aload_n 1, 1) := by decide +kernel
theorem d_26_1__20 : decode prog_26_method_1_code 20 = .ok (.putfield 17, 3) := by decide +kernel
theorem d_26_1__23 : decode prog_26_method_1_code 23 = .ok (.aload_n 0, 1) := by decide +kernel
theorem d_26_1__24 : decode prog_26_method_1_code 24 = .ok (.aload_n 2, 1) := by decide +kernel
theorem d_26_1__25 : decode prog_26_method_1_code 25 = .ok (.putfield 22, 3) := by decide +kernel
theorem d_26_1__28 : decode prog_26_method_1_code 28 = .ok (.return_, 1) := by decide +kernel
set_option maxRecDepth 65536 in
set_option maxHeartbeats 40000000 in
theorem rmSI (l : Launch) (Z : State) (a0 : Array Value) (hw : ∀ d ∈ tables_1, d.before a0 Z = true) (a s1 s2 : Addr) (n0 : Nat) (h0 : Heap) (n0_a : n0 ≤ a) (Z0 : n0 ≤ h0.size) (hO : Ext Z.heap h0) (hh1 : Jvm.Lit.constHeld Z "com/example/mailhelm/mailhelm/model/Source" 7) (hh2 : Jvm.Lit.constHeld Z "com/example/mailhelm/mailhelm/model/Source" 15) (hcw : Jvm.Lit.compactW.before a0 Z = true) (E : Exa Z h0 a "com/example/mailhelm/mailhelm/model/Source") (F1 : Fld Z h0 a "com/example/mailhelm/mailhelm/model/Source" "name" "Ljava/lang/String;" .null) (F2 : Fld Z h0 a "com/example/mailhelm/mailhelm/model/Source" "location" "Ljava/lang/String;" .null) : ConX l Z (⟨"com/example/mailhelm/mailhelm/model/Source", "<init>", "(Ljava/lang/String;Ljava/lang/String;)V"⟩ : MethodName) prog_26_method_1_code 3 none [] ({ frames := 2, cells := 4, slots := 56, locals := 40 } : Room) #[(.ref a), (.ref s1), (.ref s2)] h0 (fun vm => IB Z vm [""]) (fun v h vm L => v = none ∧ Fr n0 L ∧ Keep h0 h [a] ∧ IB Z vm ["location", "name", ""] ∧ Exa Z h a "com/example/mailhelm/mailhelm/model/Source" ∧ Fld Z h a "com/example/mailhelm/mailhelm/model/Source" "name" "Ljava/lang/String;" (.ref s1) ∧ Fld Z h a "com/example/mailhelm/mailhelm/model/Source" "location" "Ljava/lang/String;" (.ref s2)) := by
  refine ConX.of (plainFor_of_name pn_com_example_mailhelm_mailhelm_model_Source) ?_
  intro p e s m below meth c T vm0 k0 X hx hby hml hown hnm hret eT hZ hsh hS hk hPv Φ fin
  replace hown : vm0.findClass "com/example/mailhelm/mailhelm/model/Source" = some m.cls := hown
  replace hml : 3 = c.maxLocals := hml.symm
  refine own_step (fun tq kq => castTop (ef_rmSI m a s1 s2) kq) ?_
  have N0 := Fr.nil n0
  have K0 : Keep h0 h0 [a] := Keep.refl h0 [a]
  refine own_aloadN X hx hby d_26_1__0 rfl rfl (pc' := 1) rfl ?_
  refine own_callI X hx hby hZ (by exact hml) hown rfl (own_w hw 46 rfl) (own_w hw 47 rfl) (own_w hw 49 rfl) (own_w hw 50 rfl) (by decide) eT 0 (by decide) (by decide) (by decide) (by decide) (argsL := []) (rest := []) (lenOf pd___V rfl) rfl (Nat.le_of_eq rfl) (rmRc l Z a0 hw a h0) d_26_1__1 (pc' := 4) rfl ?_
  intro v1 T1 L1 X1 hQ1
  obtain ⟨rfl, rfl, e1⟩ := hQ1
  rw [List.append_nil] at X1
  replace e1 : T1.heap = h0 := e1
  show GoP p e below Φ (T1.setTop (mkF m 4 #[.val (.ref a), .val (.ref s1), .val (.ref s2)] []))
  refine own_aloadN X1 hx hby d_26_1__4 rfl rfl (pc' := 5) rfl ?_
  refine own_ldcN X1 hx hby hZ hown (text := "name") (own_w hw 52 rfl) (own_strs hw) e1 hS hk (Fr.nil _) (hsh.symm ▸ hO) hh1 hcw (z := (4 : Int32)) own_tx1.1 (by decide) own_tx1.2.1 (Ts := [""]) (by simp) hPv d_26_1__5 16 own_tx1.2.2 (by decide) (by decide) (by decide) (pc' := 7) rfl ?_
  clear hS hk hZ hown
  intro aL1 T2 h2 vm2 k2 X2 e2 E2 hS hk hZ hown IL1
  have E3_a := E.ext E2
  have F4_name := F1.ext E2
  have F5_location := F2.ext E2
  have K2 : Keep h0 h2 [a] := K0.ext E2
  have Z2 : n0 ≤ h2.size := Nat.le_trans Z0 E2.1
  show GoP p e below Φ (T2.setTop (mkF m 7 #[.val (.ref a), .val (.ref s1), .val (.ref s2)] [(.ref aL1), (.ref s1)]))
  refine own_callS X2 hx hby hZ (by exact hml) hown (own_w hw 53 rfl) (own_w hw 54 rfl) (own_w hw 55 rfl) (own_w hw 56 rfl) (by decide) e2 0 (by decide) (by decide) (by decide) (by decide) (argsL := [(.ref s1), (.ref aL1)]) (rest := []) (lenOf pd__Ljava_lang_Object_Ljava_lang_String__Ljava_lang_Object_ rfl) rfl (rmRN l Z a0 hw s1 aL1 h2) (Nat.le_of_eq rfl) d_26_1__7 (pc' := 10) rfl ?_
  intro v6 T6 L6 X6 hQ6
  obtain ⟨rfl, rfl, e6⟩ := hQ6
  rw [List.append_nil] at X6
  replace e6 : T6.heap = h2 := e6
  show GoP p e below Φ (T6.setTop (mkF m 10 #[.val (.ref a), .val (.ref s1), .val (.ref s2)] [(.ref s1)]))
  refine own_pop X6 hx hby d_26_1__10 rfl (pc' := 11) rfl ?_
  refine own_aloadN X6 hx hby d_26_1__11 rfl rfl (pc' := 12) rfl ?_
  refine own_ldcN X6 hx hby hZ hown (text := "location") (own_w hw 57 rfl) (own_strs hw) e6 hS hk (Fr.nil _) (hsh.symm ▸ hO) hh2 hcw (z := (8 : Int32)) own_tx2.1 (by decide) own_tx2.2.1 (Ts := ["name", ""]) (by simp) IL1 d_26_1__12 32 own_tx2.2.2 (by decide) (by decide) (by decide) (pc' := 14) rfl ?_
  clear hS hk hZ hown
  intro aL2 T7 h7 vm7 k7 X7 e7 E7 hS hk hZ hown IL2
  have E8_a := E3_a.ext E7
  have F9_name := F4_name.ext E7
  have F10_location := F5_location.ext E7
  have K7 : Keep h0 h7 [a] := K2.ext E7
  have Z7 : n0 ≤ h7.size := Nat.le_trans Z2 E7.1
  show GoP p e below Φ (T7.setTop (mkF m 14 #[.val (.ref a), .val (.ref s1), .val (.ref s2)] [(.ref aL2), (.ref s2)]))
  refine own_callS X7 hx hby hZ (by exact hml) hown (own_w hw 53 rfl) (own_w hw 54 rfl) (own_w hw 55 rfl) (own_w hw 56 rfl) (by decide) e7 0 (by decide) (by decide) (by decide) (by decide) (argsL := [(.ref s2), (.ref aL2)]) (rest := []) (lenOf pd__Ljava_lang_Object_Ljava_lang_String__Ljava_lang_Object_ rfl) rfl (rmRN l Z a0 hw s2 aL2 h7) (Nat.le_of_eq rfl) d_26_1__14 (pc' := 17) rfl ?_
  intro v11 T11 L11 X11 hQ11
  obtain ⟨rfl, rfl, e11⟩ := hQ11
  rw [List.append_nil] at X11
  replace e11 : T11.heap = h7 := e11
  show GoP p e below Φ (T11.setTop (mkF m 17 #[.val (.ref a), .val (.ref s1), .val (.ref s2)] [(.ref s2)]))
  refine own_pop X11 hx hby d_26_1__17 rfl (pc' := 18) rfl ?_
  refine own_aloadN X11 hx hby d_26_1__18 rfl rfl (pc' := 19) rfl ?_
  refine own_aloadN X11 hx hby d_26_1__19 rfl rfl (pc' := 20) rfl ?_
  refine own_putF X11 hx hby hZ hown (host := "") (Or.inl (own_w hw 58 rfl)) Via.refl e11 F9_name E8_a (Or.inr ⟨(own_w hw 59 rfl), rfl, hnm⟩) (own_w hw 41 rfl) (ty := (.object "java/lang/String")) (by decide) rfl rfl d_26_1__20 (pc' := 23) rfl ?_
  intro T12 h12 X12 e12 W12
  have E13_a := E8_a.wr W12
  have F14_name := F9_name.same W12
  have F15_location := F10_location.other W12 (Or.inr (slot_ne (Or.inr (own_w hw 61 rfl)) (Or.inr (own_w hw 59 rfl)) (by decide) (t := (.object "java/lang/String")) (t' := (.object "java/lang/String")) (by decide) (by decide)))
  replace hk := W12.size.symm ▸ hk
  have Z12 : n0 ≤ h12.size := by rw [W12.size]; exact Z7
  have N12 := Fr.snoc X12 N0 n0_a
  have K12 : Keep h0 h12 [a] := K7.wr W12 (Or.inl (List.mem_of_getElem? (i := 0) rfl))
  refine own_aloadN X12 hx hby d_26_1__23 rfl rfl (pc' := 24) rfl ?_
  refine own_aloadN X12 hx hby d_26_1__24 rfl rfl (pc' := 25) rfl ?_
  refine own_putF X12 hx hby hZ hown (host := "") (Or.inl (own_w hw 60 rfl)) Via.refl e12 F15_location E13_a (Or.inr ⟨(own_w hw 61 rfl), rfl, hnm⟩) (own_w hw 41 rfl) (ty := (.object "java/lang/String")) (by decide) rfl rfl d_26_1__25 (pc' := 28) rfl ?_
  intro T16 h16 X16 e16 W16
  have E17_a := E13_a.wr W16
  have F18_name := F14_name.other W16 (Or.inr (slot_ne (Or.inr (own_w hw 59 rfl)) (Or.inr (own_w hw 61 rfl)) (by decide) (t := (.object "java/lang/String")) (t' := (.object "java/lang/String")) (by decide) (by decide)))
  have F19_location := F15_location.same W16
  replace hk := W16.size.symm ▸ hk
  have Z16 : n0 ≤ h16.size := by rw [W16.size]; exact Z12
  have N16 := Fr.snoc X16 N12 n0_a
  have K16 : Keep h0 h16 [a] := K12.wr W16 (Or.inl (List.mem_of_getElem? (i := 0) rfl))
  exact own_ret0 X16 hx hby (fin _ _ hS) hret d_26_1__28 (by decide) (by decide) ⟨(by rw [e16]; exact ⟨rfl, N16, K16, own_ib_stays (s := s) _ _ X16.warmed IL2, E17_a, F18_name, F19_location⟩), (by rw [e16]; exact hk)⟩
theorem own_ne_len {Z : State} {h : Heap} {a b : Addr} {ty ty' : FieldType} {vs ws : List Value} (F : AV Z h a ty vs) (G : AV Z h b ty' ws) (q : vs.length ≠ ws.length) : a ≠ b := fun u => by
  subst u
  obtain ⟨c1, A, r1, -⟩ := F
  obtain ⟨c2, B, r2, -⟩ := G
  cases A.1.symm.trans B.1
  exact q (by rw [← r1, ← r2])
theorem ef_rmST (m : MethodId) (x0 : Addr) : entryFrame m #[(.ref x0)] 1 = mkF m 0 #[.val (.ref x0)] [] := by first | (simp [entryFrame, mkF, argsToLocals, Value.category]; done) | rfl
theorem d_26_2__0 : decode prog_26_method_2_code 0 = .ok (.new 24, 3) := by decide +kernel
theorem d_26_2__3 : decode prog_26_method_2_code 3 = .ok (.dup, 1) := by decide +kernel
theorem d_26_2__4 : decode prog_26_method_2_code 4 = .ok (.invokespecial 26, 3) := by decide +kernel
theorem d_26_2__7 : decode prog_26_method_2_code 7 = .ok (.aload_n 0, 1) := by decide +kernel
theorem d_26_2__8 : decode prog_26_method_2_code 8 = .ok (.getfield 17, 3) := by decide +kernel
theorem d_26_2__11 : decode prog_26_method_2_code 11 = .ok (.invokevirtual 27, 3) := by decide +kernel
theorem pd__Ljava_lang_String__Ljava_lang_StringBuilder_ : parseMethodDescriptor "(Ljava/lang/String;)Ljava/lang/StringBuilder;" = some ⟨[(.object "java/lang/String")], some (.object "java/lang/StringBuilder")⟩ := by decide +kernel
theorem d_26_2__14 : decode prog_26_method_2_code 14 = .ok (.ldc 31, 2) := by decide +kernel
theorem d_26_2__16 : decode prog_26_method_2_code 16 = .ok (.invokevirtual 27, 3) := by decide +kernel
theorem d_26_2__19 : decode prog_26_method_2_code 19 = .ok (.aload_n 0, 1) := by decide +kernel
theorem d_26_2__20 : decode prog_26_method_2_code 20 = .ok (.getfield 22, 3) := by decide +kernel
theorem d_26_2__23 : decode prog_26_method_2_code 23 = .ok (.invokevirtual 27, 3) := by decide +kernel
theorem d_26_2__26 : decode prog_26_method_2_code 26 = .ok (.invokevirtual 33, 3) := by decide +kernel
theorem pd___Ljava_lang_String_ : parseMethodDescriptor "()Ljava/lang/String;" = some ⟨[], some (.object "java/lang/String")⟩ := by decide +kernel
theorem d_26_2__29 : decode prog_26_method_2_code 29 = .ok (.areturn, 1) := by decide +kernel
set_option maxRecDepth 65536 in
set_option maxHeartbeats 40000000 in
theorem rmST (l : Launch) (Z : State) (a0 : Array Value) (hw : ∀ d ∈ tables_1, d.before a0 Z = true) (a s1 s2 yb1 yb2 : Addr) (cs nn mm : Int32) (ns ls : List Value) (h0 : Heap) (hcs : ¬ cs = (0 : Int32)) (Scs : Sta Z h0 "java/lang/String" "COMPACT_STRINGS" "Z" (.int cs))(hN : own_sh ns nn) (hL : own_sh ls mm) (hO : Ext Z.heap h0) (hh : Jvm.Lit.constHeld Z "com/example/mailhelm/mailhelm/model/Source" 31) (hcw : Jvm.Lit.compactW.before a0 Z = true) (E : Exa Z h0 a "com/example/mailhelm/mailhelm/model/Source") (F1 : Fld Z h0 a "com/example/mailhelm/mailhelm/model/Source" "name" "Ljava/lang/String;" (.ref s1)) (F2 : Fld Z h0 a "com/example/mailhelm/mailhelm/model/Source" "location" "Ljava/lang/String;" (.ref s2)) (Es1 : Exa Z h0 s1 "java/lang/String") (Fs1 : Fld Z h0 s1 "java/lang/String" "coder" "B" (.int (0 : Int32))) (Gs1 : Fld Z h0 s1 "java/lang/String" "value" "[B" (.ref yb1)) (Vs1 : AV Z h0 yb1 .byte ns)(Es2 : Exa Z h0 s2 "java/lang/String") (Fs2 : Fld Z h0 s2 "java/lang/String" "coder" "B" (.int (0 : Int32))) (Gs2 : Fld Z h0 s2 "java/lang/String" "value" "[B" (.ref yb2)) (Vs2 : AV Z h0 yb2 .byte ls) : ConX l Z (⟨"com/example/mailhelm/mailhelm/model/Source", "toString", "()Ljava/lang/String;"⟩ : MethodName) prog_26_method_2_code 1 (some (.object "java/lang/String")) [] ({ frames := 6, cells := 6, slots := 60, locals := 160 } : Room) #[(.ref a)] h0 (fun vm => IB Z vm ["location", "name", ""]) (fun v h vm L => ∃ r b : Addr, v = some (.ref r) ∧ Fr h0.size L ∧ Keep h0 h [] ∧ h0.size ≤ r ∧ h0.size ≤ b ∧ Exa Z h r "java/lang/String" ∧ Fld Z h r "java/lang/String" "coder" "B" (.int (0 : Int32)) ∧ Fld Z h r "java/lang/String" "value" "[B" (.ref b) ∧ AV Z h b .byte (ns ++ .int 32 :: ls)) := by
  refine ConX.of (plainFor_of_name pn_com_example_mailhelm_mailhelm_model_Source) ?_
  intro p e s m below meth c T vm0 k0 X hx hby hml hown hnm hret eT hZ hsh hS hk hPv Φ fin
  replace hown : vm0.findClass "com/example/mailhelm/mailhelm/model/Source" = some m.cls := hown
  replace hml : 1 = c.maxLocals := hml.symm
  refine own_step (fun tq kq => castTop (ef_rmST m a) kq) ?_
  obtain ⟨n0, en0⟩ : ∃ q, q = h0.size := ⟨_, rfl⟩
  have Z0 : n0 ≤ h0.size := Nat.le_of_eq en0
  have N0 := Fr.nil n0
  have K0 : Keep h0 h0 [] := Keep.refl h0 []
  obtain ⟨n1, n2, n3, n4, n5⟩ := own_shF hN
  obtain ⟨m1, m2, m3, m4, m5⟩ := own_shF hL
  have t1 : ((0 : Int32) + nn).toInt = nn.toInt := own_add32 (by rw [own_z0]; omega) (by omega) (by omega)
  have t2 : (((0 : Int32) + nn) + (1 : Int32)).toInt = nn.toInt + 1 := own_add32 (by rw [t1, own_z1]) (by omega) (by omega)
  have t3 : ((((0 : Int32) + nn) + (1 : Int32)) + mm).toInt = nn.toInt + 1 + mm.toInt := own_add32 (by rw [t2]) (by omega) (by omega)
  have c0 := own_cl (x := nn) n3
  have d0 := own_cl (x := mm) m3
  have c1 := own_cl (x := ((0 : Int32) + nn)) (by omega)
  have c2 := own_cl (x := (((0 : Int32) + nn) + (1 : Int32))) (by omega)
  have c3 := own_cl (x := ((((0 : Int32) + nn) + (1 : Int32)) + mm)) (by omega)
  have B1 : (0 : Int32).toNatClampNeg + nn.toNatClampNeg ≤ own_z16.length := by show 0 + _ ≤ 16; omega
  have l1 : (own_put own_z16 ns (0 : Int32) nn).length = 16 := own_putlen _ B1
  have B2 : ((0 : Int32) + nn).toNatClampNeg + (1 : Int32).toNatClampNeg ≤ (own_put own_z16 ns (0 : Int32) nn).length := by rw [l1]; show _ + 1 ≤ 16; omega
  have l2 : (own_put (own_put own_z16 ns (0 : Int32) nn) [.int 32] ((0 : Int32) + nn) (1 : Int32)).length = 16 := (own_putlen _ B2).trans l1
  have B3 : (((0 : Int32) + nn) + (1 : Int32)).toNatClampNeg + mm.toNatClampNeg ≤ (own_put (own_put own_z16 ns (0 : Int32) nn) [.int 32] ((0 : Int32) + nn) (1 : Int32)).length := by rw [l2]; omega
  have l3 : (own_put (own_put (own_put own_z16 ns (0 : Int32) nn) [.int 32] ((0 : Int32) + nn) (1 : Int32)) ls (((0 : Int32) + nn) + (1 : Int32)) mm).length = 16 := (own_putlen _ B3).trans l2
  have f0 : own_z16.all (fits .byte) = true := by decide
  have f1 : (own_put own_z16 ns (0 : Int32) nn).all (fits .byte) = true := own_putfit _ _ f0 n2
  have f2 : (own_put (own_put own_z16 ns (0 : Int32) nn) [.int 32] ((0 : Int32) + nn) (1 : Int32)).all (fits .byte) = true := own_putfit _ _ f1 (by decide)
  have f3 : (own_put (own_put (own_put own_z16 ns (0 : Int32) nn) [.int 32] ((0 : Int32) + nn) (1 : Int32)) ls (((0 : Int32) + nn) + (1 : Int32)) mm).all (fits .byte) = true := own_putfit _ _ f2 m2
  obtain ⟨T1, h1, X1, e1, E1, A1, D1, -, st1⟩ := newO X hx hZ hown (own_w hw 67 rfl) (own_w hw 68 rfl) (own_w hw 69 rfl) eT (g := (mkF m 0 #[.val (.ref a)] [])) rfl (hb hby d_26_2__0) (by decide) (by decide)
  obtain ⟨b1, g1⟩ : ∃ z, z = h0.size := ⟨_, rfl⟩
  have ne_a_b1 : a ≠ b1 := Nat.ne_of_lt (g1 ▸ E.lt)
  have ne_s1_b1 : s1 ≠ b1 := Nat.ne_of_lt (g1 ▸ Es1.lt)
  have ne_yb1_b1 : yb1 ≠ b1 := Nat.ne_of_lt (g1 ▸ Vs1.lt)
  have ne_s2_b1 : s2 ≠ b1 := Nat.ne_of_lt (g1 ▸ Es2.lt)
  have ne_yb2_b1 : yb2 ≠ b1 := Nat.ne_of_lt (g1 ▸ Vs2.lt)
  have S2_COMPACT_STRINGS := Scs.ext E1
  have E3_a := E.ext E1
  have F4_name := F1.ext E1
  have F5_location := F2.ext E1
  have E6_s1 := Es1.ext E1
  have F7_coder := Fs1.ext E1
  have F8_value := Gs1.ext E1
  have V9_yb1 := Vs1.ext E1
  have E10_s2 := Es2.ext E1
  have F11_coder := Fs2.ext E1
  have F12_value := Gs2.ext E1
  have V13_yb2 := Vs2.ext E1
  replace hk := Nat.le_trans hk E1.1
  have Z1 : n0 ≤ h1.size := Nat.le_trans Z0 E1.1
  have n0_b1 : n0 ≤ b1 := g1 ▸ Z0
  have sz_b1 : h0.size ≤ b1 := g1 ▸ K0.1
  have K1 : Keep h0 h1 [] := K0.ext E1
  rw [← g1] at A1 D1 st1
  refine own_step st1 ?_
  have F1_value : Fld Z h1 b1 "java/lang/AbstractStringBuilder" "value" "[B" .null := D1 (Or.inl (own_w hw 82 rfl)) (ty := (.array .byte)) (by decide)
  have F1_coder : Fld Z h1 b1 "java/lang/AbstractStringBuilder" "coder" "B" (.int (0 : Int32)) := D1 (Or.inl (own_w hw 84 rfl)) (ty := .byte) (by decide)
  have F1_count : Fld Z h1 b1 "java/lang/AbstractStringBuilder" "count" "I" (.int (0 : Int32)) := D1 (Or.inl (own_w hw 106 rfl)) (ty := .int) (by decide)
  show GoP p e below Φ (T1.setTop (mkF m 3 #[.val (.ref a)] [(.ref b1)]))
  refine own_dup X1 hx hby d_26_2__3 rfl (pc' := 4) rfl ?_
  refine own_callI X1 hx hby hZ (by exact hml) hown rfl (own_w hw 70 rfl) (own_w hw 71 rfl) (own_w hw 69 rfl) (own_w hw 72 rfl) (by decide) e1 1 (by decide) (by decide) (by decide) (by decide) (argsL := []) (rest := [(.ref b1)]) (lenOf pd___V rfl) rfl (Nat.le_of_eq rfl) (rmB0 l Z a0 hw b1 cs n0 h1 hcs S2_COMPACT_STRINGS n0_b1 Z1 A1 F1_value F1_coder F1_count) d_26_2__4 (pc' := 7) rfl ?_
  intro v14 T14 L14 X14 hQ14
  obtain ⟨rfl, Nq14, K14, ab, sb14, Eb14, Fv14, Fc14, Fn14, Vb14⟩ := hQ14
  have ne_a_ab : a ≠ ab := Nat.ne_of_lt (Nat.lt_of_lt_of_le E3_a.lt sb14)
  have ne_s1_ab : s1 ≠ ab := Nat.ne_of_lt (Nat.lt_of_lt_of_le E6_s1.lt sb14)
  have ne_yb1_ab : yb1 ≠ ab := Nat.ne_of_lt (Nat.lt_of_lt_of_le V9_yb1.lt sb14)
  have ne_s2_ab : s2 ≠ ab := Nat.ne_of_lt (Nat.lt_of_lt_of_le E10_s2.lt sb14)
  have ne_yb2_ab : yb2 ≠ ab := Nat.ne_of_lt (Nat.lt_of_lt_of_le V13_yb2.lt sb14)
  have ne_b1_ab : b1 ≠ ab := Nat.ne_of_lt (Nat.lt_of_lt_of_le A1.lt sb14)
  have n0_ab : n0 ≤ ab := Nat.le_trans Z1 sb14
  have sz_ab : h0.size ≤ ab := Nat.le_trans K1.1 sb14
  have S15_COMPACT_STRINGS := own_stakeep S2_COMPACT_STRINGS K14 (allS (own_plainE A1) all0)
  have E16_a := E3_a.keep K14
  have F17_name := F4_name.keep K14 (ninS ne_a_b1 nin0)
  have F18_location := F5_location.keep K14 (ninS ne_a_b1 nin0)
  have E19_s1 := E6_s1.keep K14
  have F20_coder := F7_coder.keep K14 (ninS ne_s1_b1 nin0)
  have F21_value := F8_value.keep K14 (ninS ne_s1_b1 nin0)
  have V22_yb1 := V9_yb1.keep K14 (ninS ne_yb1_b1 nin0)
  have E23_s2 := E10_s2.keep K14
  have F24_coder := F11_coder.keep K14 (ninS ne_s2_b1 nin0)
  have F25_value := F12_value.keep K14 (ninS ne_s2_b1 nin0)
  have V26_yb2 := V13_yb2.keep K14 (ninS ne_yb2_b1 nin0)
  have N14 := Fr.app N0 Nq14
  have Z14 : n0 ≤ T14.heap.size := Nat.le_trans Z1 K14.1
  have KK14 : Keep h0 T14.heap [] := K1.trans K14 (allS (Or.inr sz_b1) all0)
  replace hk := Nat.le_trans hk K14.1
  show GoP p e below Φ (T14.setTop (mkF m 7 #[.val (.ref a)] [(.ref b1)]))
  refine own_aloadN X14 hx hby d_26_2__7 rfl rfl (pc' := 8) rfl ?_
  refine own_getF X14 hx hby hZ hown (host := "") (Or.inl (own_w hw 58 rfl)) Via.refl rfl F17_name d_26_2__8 (pc' := 11) rfl ?_
  intro T27 X27 e27
  refine own_callV X27 hx hby hZ (by exact hml) hown (own_w hw 85 rfl) (own_w hw 86 rfl) (own_w hw 88 rfl) (own_w hw 87 rfl) (own_w hw 69 rfl) (own_w hw 89 rfl) (by decide) e27 0 (by decide) (by decide) (by decide) (by decide) (argsL := [(.ref s1)]) (rest := []) (lenOf pd__Ljava_lang_String__Ljava_lang_StringBuilder_ rfl) rfl (Nat.le_of_eq rfl) Eb14 (rmAp l Z a0 hw b1 ab s1 yb1 cs (0 : Int32) nn ns own_z16 n0 T14.heap hcs S15_COMPACT_STRINGS n0_b1 n0_ab ne_b1_ab ne_s1_ab ne_yb1_ab (by decide) (own_room (by omega) (by omega)) Eb14 Fv14 Fc14 Fn14 Vb14 E19_s1 F20_coder F21_value V22_yb1 n1 n2 f0 (by decide) (own_geI (by rw [own_z0]; omega)) (by show 0 + _ ≤ _; omega) B1) d_26_2__11 (pc' := 14) rfl ?_
  intro v28 T28 L28 X28 hQ28
  obtain ⟨rfl, Nq28, K28, Eb28, Fv28, Fc28, Fn28, Vb28⟩ := hQ28
  have S29_COMPACT_STRINGS := own_stakeep S15_COMPACT_STRINGS K28 (allS (own_plainE Eb14) (allS Vb14.plain all0))
  have E30_a := E16_a.keep K28
  have F31_name := F17_name.keep K28 (ninS ne_a_b1 (ninS ne_a_ab nin0))
  have F32_location := F18_location.keep K28 (ninS ne_a_b1 (ninS ne_a_ab nin0))
  have E33_s1 := E19_s1.keep K28
  have F34_coder := F20_coder.keep K28 (ninS ne_s1_b1 (ninS ne_s1_ab nin0))
  have F35_value := F21_value.keep K28 (ninS ne_s1_b1 (ninS ne_s1_ab nin0))
  have V36_yb1 := V22_yb1.keep K28 (ninS ne_yb1_b1 (ninS ne_yb1_ab nin0))
  have E37_s2 := E23_s2.keep K28
  have F38_coder := F24_coder.keep K28 (ninS ne_s2_b1 (ninS ne_s2_ab nin0))
  have F39_value := F25_value.keep K28 (ninS ne_s2_b1 (ninS ne_s2_ab nin0))
  have V40_yb2 := V26_yb2.keep K28 (ninS ne_yb2_b1 (ninS ne_yb2_ab nin0))
  have N28 := Fr.app N14 Nq28
  have Z28 : n0 ≤ T28.heap.size := Nat.le_trans Z14 K28.1
  have KK28 : Keep h0 T28.heap [] := KK14.trans K28 (allS (Or.inr sz_b1) (allS (Or.inr sz_ab) all0))
  replace hk := Nat.le_trans hk K28.1
  show GoP p e below Φ (T28.setTop (mkF m 14 #[.val (.ref a)] [(.ref b1)]))
  refine own_ldcB X28 hx hby hZ hown (own_w hw 132 rfl) (own_strs hw) rfl hS hk (by rw [hsh, ← en0]; exact N28) (hsh.symm ▸ hO) hh hcw (bs := [.int 32]) (z := (1 : Int32)) ⟨(by decide +kernel), rfl⟩ (by decide) (by decide +kernel) (Ts := ["location", "name", ""]) (by simp) hPv d_26_2__14 4 (by decide +kernel) (by decide) (by decide) (by decide) (pc' := 16) rfl ?_
  clear hS hk hZ hown
  intro aLs bLs T41 h41 vm41 k41 X41 e41 E41 hS hk hZ hown LLs ELs CLs VLs BLs ILs
  have S42_COMPACT_STRINGS := S29_COMPACT_STRINGS.ext E41
  have E43_a := E30_a.ext E41
  have F44_name := F31_name.ext E41
  have F45_location := F32_location.ext E41
  have E46_s2 := E37_s2.ext E41
  have F47_coder := F38_coder.ext E41
  have F48_value := F39_value.ext E41
  have V49_yb2 := V40_yb2.ext E41
  have E50_b1 := Eb28.ext E41
  have F51_value := Fv28.ext E41
  have F52_coder := Fc28.ext E41
  have F53_count := Fn28.ext E41
  have V54_ab := Vb28.ext E41
  have K41 : Keep h0 h41 [] := KK28.ext E41
  have Z41 : n0 ≤ h41.size := Nat.le_trans Z28 E41.1
  show GoP p e below Φ (T41.setTop (mkF m 16 #[.val (.ref a)] [(.ref aLs), (.ref b1)]))
  have ne_aLs_b1 : aLs ≠ b1 := Exa.ne ELs E50_b1 (by decide)
  have ne_bLs_b1 : bLs ≠ b1 := (own_ne_av E50_b1 (own_w hw 68 rfl) BLs).symm
  have ne_aLs_ab : aLs ≠ ab := own_ne_av ELs (own_w hw 5 rfl) V54_ab
  have ne_bLs_ab : bLs ≠ ab := own_ne_len BLs V54_ab (by rw [l1]; decide)
  refine own_callV X41 hx hby hZ (by exact hml) hown (own_w hw 85 rfl) (own_w hw 86 rfl) (own_w hw 88 rfl) (own_w hw 87 rfl) (own_w hw 69 rfl) (own_w hw 89 rfl) (by decide) e41 0 (by decide) (by decide) (by decide) (by decide) (argsL := [(.ref aLs)]) (rest := []) (lenOf pd__Ljava_lang_String__Ljava_lang_StringBuilder_ rfl) rfl (Nat.le_of_eq rfl) E50_b1 (rmAp l Z a0 hw b1 ab aLs bLs cs ((0 : Int32) + nn) (1 : Int32) [.int 32] (own_put own_z16 ns (0 : Int32) nn) n0 h41 hcs S42_COMPACT_STRINGS n0_b1 n0_ab ne_b1_ab ne_aLs_ab ne_bLs_ab (by rw [l1]; rfl) (own_room (by omega) (by omega)) E50_b1 F51_value F52_coder F53_count V54_ab ELs CLs VLs BLs rfl (by decide) f1 (own_geI (by rw [own_z0]; omega)) (by decide) (by decide) B2) d_26_2__16 (pc' := 19) rfl ?_
  intro v55 T55 L55 X55 hQ55
  obtain ⟨rfl, Nq55, K55, Eb55, Fv55, Fc55, Fn55, Vb55⟩ := hQ55
  have S56_COMPACT_STRINGS := own_stakeep S42_COMPACT_STRINGS K55 (allS (own_plainE E50_b1) (allS V54_ab.plain all0))
  have E57_a := E43_a.keep K55
  have F58_name := F44_name.keep K55 (ninS ne_a_b1 (ninS ne_a_ab nin0))
  have F59_location := F45_location.keep K55 (ninS ne_a_b1 (ninS ne_a_ab nin0))
  have E60_s2 := E46_s2.keep K55
  have F61_coder := F47_coder.keep K55 (ninS ne_s2_b1 (ninS ne_s2_ab nin0))
  have F62_value := F48_value.keep K55 (ninS ne_s2_b1 (ninS ne_s2_ab nin0))
  have V63_yb2 := V49_yb2.keep K55 (ninS ne_yb2_b1 (ninS ne_yb2_ab nin0))
  have E64_aLs := ELs.keep K55
  have F65_coder := CLs.keep K55 (ninS ne_aLs_b1 (ninS ne_aLs_ab nin0))
  have F66_value := VLs.keep K55 (ninS ne_aLs_b1 (ninS ne_aLs_ab nin0))
  have V67_bLs := BLs.keep K55 (ninS ne_bLs_b1 (ninS ne_bLs_ab nin0))
  have N55 := Fr.app N28 Nq55
  have Z55 : n0 ≤ T55.heap.size := Nat.le_trans Z41 K55.1
  have KK55 : Keep h0 T55.heap [] := K41.trans K55 (allS (Or.inr sz_b1) (allS (Or.inr sz_ab) all0))
  replace hk := Nat.le_trans hk K55.1
  show GoP p e below Φ (T55.setTop (mkF m 19 #[.val (.ref a)] [(.ref b1)]))
  refine own_aloadN X55 hx hby d_26_2__19 rfl rfl (pc' := 20) rfl ?_
  refine own_getF X55 hx hby hZ hown (host := "") (Or.inl (own_w hw 60 rfl)) Via.refl rfl F59_location d_26_2__20 (pc' := 23) rfl ?_
  intro T68 X68 e68
  refine own_callV X68 hx hby hZ (by exact hml) hown (own_w hw 85 rfl) (own_w hw 86 rfl) (own_w hw 88 rfl) (own_w hw 87 rfl) (own_w hw 69 rfl) (own_w hw 89 rfl) (by decide) e68 0 (by decide) (by decide) (by decide) (by decide) (argsL := [(.ref s2)]) (rest := []) (lenOf pd__Ljava_lang_String__Ljava_lang_StringBuilder_ rfl) rfl (Nat.le_of_eq rfl) Eb55 (rmAp l Z a0 hw b1 ab s2 yb2 cs (((0 : Int32) + nn) + (1 : Int32)) mm ls (own_put (own_put own_z16 ns (0 : Int32) nn) [.int 32] ((0 : Int32) + nn) (1 : Int32)) n0 T55.heap hcs S56_COMPACT_STRINGS n0_b1 n0_ab ne_b1_ab ne_s2_ab ne_yb2_ab (by rw [l2]; rfl) (own_room (by omega) (by omega)) Eb55 Fv55 Fc55 Fn55 Vb55 E60_s2 F61_coder F62_value V63_yb2 m1 m2 f2 (own_geI (by rw [own_z0]; omega)) (own_geI (by rw [own_z0]; omega)) (by show 0 + _ ≤ _; omega) B3) d_26_2__23 (pc' := 26) rfl ?_
  intro v69 T69 L69 X69 hQ69
  obtain ⟨rfl, Nq69, K69, Eb69, Fv69, Fc69, Fn69, Vb69⟩ := hQ69
  have S70_COMPACT_STRINGS := own_stakeep S56_COMPACT_STRINGS K69 (allS (own_plainE Eb55) (allS Vb55.plain all0))
  have E71_a := E57_a.keep K69
  have F72_name := F58_name.keep K69 (ninS ne_a_b1 (ninS ne_a_ab nin0))
  have F73_location := F59_location.keep K69 (ninS ne_a_b1 (ninS ne_a_ab nin0))
  have E74_s2 := E60_s2.keep K69
  have F75_coder := F61_coder.keep K69 (ninS ne_s2_b1 (ninS ne_s2_ab nin0))
  have F76_value := F62_value.keep K69 (ninS ne_s2_b1 (ninS ne_s2_ab nin0))
  have V77_yb2 := V63_yb2.keep K69 (ninS ne_yb2_b1 (ninS ne_yb2_ab nin0))
  have N69 := Fr.app N55 Nq69
  have Z69 : n0 ≤ T69.heap.size := Nat.le_trans Z55 K69.1
  have KK69 : Keep h0 T69.heap [] := KK55.trans K69 (allS (Or.inr sz_b1) (allS (Or.inr sz_ab) all0))
  replace hk := Nat.le_trans hk K69.1
  show GoP p e below Φ (T69.setTop (mkF m 26 #[.val (.ref a)] [(.ref b1)]))
  refine own_callV X69 hx hby hZ (by exact hml) hown (own_w hw 133 rfl) (own_w hw 134 rfl) (own_w hw 136 rfl) (own_w hw 135 rfl) (own_w hw 69 rfl) (own_w hw 137 rfl) (by decide) rfl 0 (by decide) (by decide) (by decide) (by decide) (argsL := []) (rest := []) (lenOf pd___Ljava_lang_String_ rfl) rfl (Nat.le_of_eq rfl) Eb69 (rmTS l Z a0 hw b1 ab cs ((((0 : Int32) + nn) + (1 : Int32)) + mm) (own_put (own_put (own_put own_z16 ns (0 : Int32) nn) [.int 32] ((0 : Int32) + nn) (1 : Int32)) ls (((0 : Int32) + nn) + (1 : Int32)) mm) n0 T69.heap hcs S70_COMPACT_STRINGS Z69 Eb69 Fv69 Fc69 Fn69 Vb69 (own_geI (by rw [own_z0]; omega)) (own_ltI (by rw [own_z16i]; omega)) (by omega) (fun u => by have w := congrArg Int32.toInt u; rw [own_z16i] at w; omega) l3 f3) d_26_2__26 (pc' := 29) rfl ?_
  intro v78 T78 L78 X78 hQ78
  obtain ⟨r78, bb78, rfl, Nq78, K78, sr78, sb78, E78, FC78, FV78, V78⟩ := hQ78
  have szr : h0.size ≤ r78 := Nat.le_trans KK69.1 sr78
  have szb : h0.size ≤ bb78 := Nat.le_trans KK69.1 sb78
  rw [own_whole hN hL] at V78
  have N78 := Fr.app N69 Nq78
  have Z78 : n0 ≤ T78.heap.size := Nat.le_trans Z69 K78.1
  have KK78 : Keep h0 T78.heap [] := KK69.trans K78 all0
  replace hk := Nat.le_trans hk K78.1
  show GoP p e below Φ (T78.setTop (mkF m 29 #[.val (.ref a)] [(.ref r78)]))
  exact own_retA X78 hx hby (fin _ _ hS) hret rfl rfl rfl d_26_2__29 (by decide) (by decide) ⟨⟨r78, bb78, rfl, (by rw [← en0]; exact N78), KK78, szr, szb, E78, FC78, FV78, V78⟩, hk⟩
theorem ef_rm0 (m : MethodId) (x0 : Int32) (x1 : Int32) (x2 : Int32) : entryFrame m #[(.int x0), (.int x1), (.int x2)] maxLocals = mkF m 0 #[.val (.int x0), .val (.int x1), .val (.int x2), .unset, .unset, .unset, .unset, .unset, .unset] [] := by first | (simp [entryFrame, mkF, argsToLocals, Value.category, maxLocals]; done) | rfl
theorem pd__II_Ljava_lang_String_ : parseMethodDescriptor "(II)Ljava/lang/String;" = some ⟨[.int, .int], some (.object "java/lang/String")⟩ := by decide +kernel
theorem pd__Ljava_lang_String_Ljava_lang_String__V : parseMethodDescriptor "(Ljava/lang/String;Ljava/lang/String;)V" = some ⟨[(.object "java/lang/String"), (.object "java/lang/String")], none⟩ := by decide +kernel
theorem pd__I_C : parseMethodDescriptor "(I)C" = some ⟨[.int], some .char⟩ := by decide +kernel
set_option maxRecDepth 65536 in
set_option maxHeartbeats 40000000 in
theorem rm0 (l : Launch) (Z : State) (a0 : Array Value) (hw : ∀ d ∈ tables_1, d.before a0 Z = true) (p1 p2 p3 cs : Int32) (wf : Value) (n0 : Nat) (h0 : Heap) (Z0 : n0 ≤ h0.size) (O0 : Old Z n0 h0) (hh0 : Jvm.Lit.constHeld Z "java/lang/String" 7) (hh1 : Jvm.Lit.constHeld Z "com/example/mailhelm/mailhelm/model/Source" 7) (hh2 : Jvm.Lit.constHeld Z "com/example/mailhelm/mailhelm/model/Source" 15) (hh3 : Jvm.Lit.constHeld Z "com/example/mailhelm/mailhelm/model/Source" 31) (hcw : Jvm.Lit.compactW.before a0 Z = true) (hwf : wf.isRef = true) (hwc : wf.category = 1) (Sf : Sta Z h0 "jdk/internal/util/Preconditions" "SIOOBE_FORMATTER" "Ljava/util/function/BiFunction;" wf) (hcs : ¬ cs = (0 : Int32)) (Scs : Sta Z h0 "java/lang/String" "COMPACT_STRINGS" "Z" (.int cs)) : ConX l Z x code maxLocals ret tables_1 room_1 #[(.int p1), (.int p2), (.int p3)] h0 (fun vm => IB Z vm []) (fun v h vm L => v = some (.int 1) ∧ Fr n0 L) := by
  refine ConX.of (plainFor_of_name pn_com_example_mailhelm_mailhelm_model_SourceToStringPinLaw) ?_
  intro p e s m below meth c T vm0 k0 X hx hby hml hown hnm hret eT hZ hsh hS hk hPv Φ fin
  replace hown : vm0.findClass "com/example/mailhelm/mailhelm/model/SourceToStringPinLaw" = some m.cls := hown
  replace hml : 9 = c.maxLocals := hml.symm
  refine own_step (fun tq kq => castTop (ef_rm0 m p1 p2 p3) kq) ?_
  replace hret : meth.sig.returnType = (some .boolean) := hret
  have N0 := Fr.nil n0
  refine own_iloadN X hx hby at_0 rfl (pc' := 1) rfl ?_
  refine own_iconst X hx hby at_1 (v := (3 : Int32)) rfl (pc' := 2) rfl ?_
  refine own_iand X hx hby at_2 (pc' := 3) rfl ?_
  refine own_istoreN X hx hby at_3  (Ls' := #[.val (.int p1), .val (.int p2), .val (.int p3), .val (.int (p3 &&& (3 : Int32))), .unset, .unset, .unset, .unset, .unset]) rfl (pc' := 4) rfl ?_
  refine own_iloadN X hx hby at_4 rfl (pc' := 5) rfl ?_
  refine own_iconst X hx hby at_5 (v := (2 : Int32)) rfl (pc' := 6) rfl ?_
  refine own_iushr X hx hby at_6 (pc' := 7) rfl ?_
  refine own_iconst X hx hby at_7 (v := (3 : Int32)) rfl (pc' := 8) rfl ?_
  refine own_iand X hx hby at_8 (pc' := 9) rfl ?_
  refine own_istore X hx hby at_9  (Ls' := #[.val (.int p1), .val (.int p2), .val (.int p3), .val (.int (p3 &&& (3 : Int32))), .val (.int (((p3.toUInt32 >>> ((2 : Int32) &&& 31).toUInt32).toInt32) &&& (3 : Int32))), .unset, .unset, .unset, .unset]) rfl (pc' := 11) rfl ?_
  obtain ⟨ln, e_ln, fln⟩ : ∃ q : Int32, q = (p3 &&& (3 : Int32)) ∧ own_four q := ⟨_, rfl, own_mask4 _⟩
  rw [← e_ln]
  obtain ⟨lm, e_lm, flm⟩ : ∃ q : Int32, q = (((p3.toUInt32 >>> ((2 : Int32) &&& 31).toUInt32).toInt32) &&& (3 : Int32)) ∧ own_four q := ⟨_, rfl, own_mask4 _⟩
  rw [← e_lm]
  refine own_iloadN X hx hby at_11 rfl (pc' := 12) rfl ?_
  refine own_iloadN X hx hby at_12 rfl (pc' := 13) rfl ?_
  refine own_callSX X hx hby hZ (by exact hml) hown (own_w hw 0 rfl) (own_w hw 1 rfl) (own_w hw 2 rfl) (own_w hw 3 rfl) (by decide) eT 0 (by decide) (by decide) (by decide) (by decide) (argsL := [(.int ln), (.int p1)]) (rest := []) (lenOf pd__II_Ljava_lang_String_ rfl) rfl (Nat.le_of_eq rfl) (rmMk l Z a0 hw ln p1 cs n0 h0 Z0 O0 hh0 hcw hcs Scs) at_13 (pc' := 16) rfl hS hk own_litT_stays (Or.inl hPv) ?_
  clear hS hk hZ hown
  intro v1 T1 L1 X1 hS hk hZ hown hge1 hQ1
  obtain ⟨sa1, sb1, rfl, Nq1, K1, sz1, E1, FC1, FV1, V1, LT1⟩ := hQ1
  have S2_COMPACT_STRINGS := own_stakeep Scs K1 all0
  have S3_SIOOBE_FORMATTER := own_stakeep Sf K1 all0
  have N1 := Fr.app N0 Nq1
  have O1 := O0.keep K1 all0
  have Z1 : n0 ≤ T1.heap.size := Nat.le_trans Z0 K1.1
  show GoP p e below Φ (T1.setTop (mkF m 16 #[.val (.int p1), .val (.int p2), .val (.int p3), .val (.int ln), .val (.int lm), .unset, .unset, .unset, .unset] [(.ref sa1)]))
  refine own_astore X1 hx hby at_16 rfl (Ls' := #[.val (.int p1), .val (.int p2), .val (.int p3), .val (.int ln), .val (.int lm), .val (.ref sa1), .unset, .unset, .unset]) rfl (pc' := 18) rfl ?_
  refine own_iload X1 hx hby at_18 rfl (pc' := 20) rfl ?_
  refine own_iloadN X1 hx hby at_20 rfl (pc' := 21) rfl ?_
  refine own_callSX X1 hx hby hZ (by exact hml) hown (own_w hw 0 rfl) (own_w hw 1 rfl) (own_w hw 2 rfl) (own_w hw 3 rfl) (by decide) rfl 0 (by decide) (by decide) (by decide) (by decide) (argsL := [(.int lm), (.int p2)]) (rest := []) (lenOf pd__II_Ljava_lang_String_ rfl) rfl (Nat.le_of_eq rfl) (rmMk l Z a0 hw lm p2 cs n0 T1.heap Z1 O1 hh0 hcw hcs S2_COMPACT_STRINGS) at_21 (pc' := 24) rfl hS hk own_litT_stays LT1 ?_
  clear hS hk hZ hown
  intro v4 T4 L4 X4 hS hk hZ hown hge4 hQ4
  obtain ⟨sa4, sb4, rfl, Nq4, K4, sz4, E4, FC4, FV4, V4, LT4⟩ := hQ4
  have S5_COMPACT_STRINGS := own_stakeep S2_COMPACT_STRINGS K4 all0
  have S6_SIOOBE_FORMATTER := own_stakeep S3_SIOOBE_FORMATTER K4 all0
  have E7_sa1 := E1.keep K4
  have F8_coder := FC1.keep K4 nin0
  have F9_value := FV1.keep K4 nin0
  have V10_sb1 := V1.keep K4 nin0
  have N4 := Fr.app N1 Nq4
  have O4 := O1.keep K4 all0
  have Z4 : n0 ≤ T4.heap.size := Nat.le_trans Z1 K4.1
  show GoP p e below Φ (T4.setTop (mkF m 24 #[.val (.int p1), .val (.int p2), .val (.int p3), .val (.int ln), .val (.int lm), .val (.ref sa1), .unset, .unset, .unset] [(.ref sa4)]))
  refine own_astore X4 hx hby at_24 rfl (Ls' := #[.val (.int p1), .val (.int p2), .val (.int p3), .val (.int ln), .val (.int lm), .val (.ref sa1), .val (.ref sa4), .unset, .unset]) rfl (pc' := 26) rfl ?_
  obtain ⟨T11, h11, X11, e11, E11, A11, D11, -, st11⟩ := newO X4 hx hZ hown (own_w hw 40 rfl) (own_w hw 41 rfl) (own_w hw 42 rfl) rfl (g := (mkF m 26 #[.val (.int p1), .val (.int p2), .val (.int p3), .val (.int ln), .val (.int lm), .val (.ref sa1), .val (.ref sa4), .unset, .unset] [])) rfl (hb hby at_26) (by decide) (by decide)
  obtain ⟨b11, g11⟩ : ∃ z, z = T4.heap.size := ⟨_, rfl⟩
  have ne_sa1_b11 : sa1 ≠ b11 := Nat.ne_of_lt (g11 ▸ E7_sa1.lt)
  have ne_sb1_b11 : sb1 ≠ b11 := Nat.ne_of_lt (g11 ▸ V10_sb1.lt)
  have ne_sa4_b11 : sa4 ≠ b11 := Nat.ne_of_lt (g11 ▸ E4.lt)
  have ne_sb4_b11 : sb4 ≠ b11 := Nat.ne_of_lt (g11 ▸ V4.lt)
  have S12_COMPACT_STRINGS := S5_COMPACT_STRINGS.ext E11
  have S13_SIOOBE_FORMATTER := S6_SIOOBE_FORMATTER.ext E11
  have E14_sa1 := E7_sa1.ext E11
  have F15_coder := F8_coder.ext E11
  have F16_value := F9_value.ext E11
  have V17_sb1 := V10_sb1.ext E11
  have E18_sa4 := E4.ext E11
  have F19_coder := FC4.ext E11
  have F20_value := FV4.ext E11
  have V21_sb4 := V4.ext E11
  replace hk := Nat.le_trans hk E11.1
  have Z11 : n0 ≤ h11.size := Nat.le_trans Z4 E11.1
  have n0_b11 : n0 ≤ b11 := g11 ▸ Z4
  have O11 := O4.ext E11
  rw [← g11] at A11 D11 st11
  refine own_step st11 ?_
  have F11_name : Fld Z h11 b11 "com/example/mailhelm/mailhelm/model/Source" "name" "Ljava/lang/String;" .null := D11 (Or.inr (own_w hw 59 rfl)) (ty := (.object "java/lang/String")) (by decide)
  have F11_location : Fld Z h11 b11 "com/example/mailhelm/mailhelm/model/Source" "location" "Ljava/lang/String;" .null := D11 (Or.inr (own_w hw 61 rfl)) (ty := (.object "java/lang/String")) (by decide)
  show GoP p e below Φ (T11.setTop (mkF m 29 #[.val (.int p1), .val (.int p2), .val (.int p3), .val (.int ln), .val (.int lm), .val (.ref sa1), .val (.ref sa4), .unset, .unset] [(.ref b11)]))
  refine own_dup X11 hx hby at_29 rfl (pc' := 30) rfl ?_
  refine own_aload X11 hx hby at_30 rfl rfl (pc' := 32) rfl ?_
  refine own_aload X11 hx hby at_32 rfl rfl (pc' := 34) rfl ?_
  refine own_callIX X11 hx hby hZ (by exact hml) hown rfl (own_w hw 43 rfl) (own_w hw 44 rfl) (own_w hw 42 rfl) (own_w hw 45 rfl) (by decide) e11 1 (by decide) (by decide) (by decide) (by decide) (argsL := [(.ref sa1), (.ref sa4)]) (rest := [(.ref b11)]) (lenOf pd__Ljava_lang_String_Ljava_lang_String__V rfl) rfl (Nat.le_of_eq rfl) (rmSI l Z a0 hw b11 sa1 sa4 n0 h11 n0_b11 Z11 O11.2 hh1 hh2 hcw A11 F11_name F11_location) at_34 (pc' := 37) rfl hS hk own_ib_stays LT4.ib ?_
  clear hS hk hZ hown
  intro v22 T22 L22 X22 hS hk hZ hown hge22 hQ22
  obtain ⟨rfl, Nq22, K22, IB22, E22, F122, F222⟩ := hQ22
  have S23_COMPACT_STRINGS := own_stakeep S12_COMPACT_STRINGS K22 (allS (own_plainE A11) all0)
  have S24_SIOOBE_FORMATTER := own_stakeep S13_SIOOBE_FORMATTER K22 (allS (own_plainE A11) all0)
  have E25_sa1 := E14_sa1.keep K22
  have F26_coder := F15_coder.keep K22 (ninS ne_sa1_b11 nin0)
  have F27_value := F16_value.keep K22 (ninS ne_sa1_b11 nin0)
  have V28_sb1 := V17_sb1.keep K22 (ninS ne_sb1_b11 nin0)
  have E29_sa4 := E18_sa4.keep K22
  have F30_coder := F19_coder.keep K22 (ninS ne_sa4_b11 nin0)
  have F31_value := F20_value.keep K22 (ninS ne_sa4_b11 nin0)
  have V32_sb4 := V21_sb4.keep K22 (ninS ne_sb4_b11 nin0)
  have N22 := Fr.app N4 Nq22
  have O22 := O11.keep K22 (allS n0_b11 all0)
  have Z22 : n0 ≤ T22.heap.size := Nat.le_trans Z11 K22.1
  show GoP p e below Φ (T22.setTop (mkF m 37 #[.val (.int p1), .val (.int p2), .val (.int p3), .val (.int ln), .val (.int lm), .val (.ref sa1), .val (.ref sa4), .unset, .unset] [(.ref b11)]))
  refine own_callVX X22 hx hby hZ (by exact hml) hown (own_w hw 62 rfl) (own_w hw 63 rfl) (own_w hw 65 rfl) (own_w hw 64 rfl) (own_w hw 42 rfl) (own_w hw 66 rfl) (by decide) rfl 0 (by decide) (by decide) (by decide) (by decide) (argsL := []) (rest := []) (lenOf pd___Ljava_lang_String_ rfl) rfl (Nat.le_of_eq rfl) E22 (rmST l Z a0 hw b11 sa1 sa4 sb1 sb4 cs ln lm (own_mkb ln p1) (own_mkb lm p2) T22.heap hcs S23_COMPACT_STRINGS (own_mksh fln p1) (own_mksh flm p2) O22.2 hh3 hcw E22 F122 F222 E25_sa1 F26_coder F27_value V28_sb1 E29_sa4 F30_coder F31_value V32_sb4) at_37 (pc' := 40) rfl hS hk own_ib_stays IB22 ?_
  clear hS hk hZ hown
  intro v33 T33 L33 X33 hS hk hZ hown hge33 hQ33
  obtain ⟨r, bb, rfl, Nr33, K33, sr33, sb33, E33, FC33, FV33, V33⟩ := hQ33
  have Nq33 : Fr n0 L33 := fun y hy => Nat.le_trans Z22 (Nr33 y hy)
  replace V33 : AV Z T33.heap bb .byte (own_all ln lm p1 p2) := V33
  have S34_COMPACT_STRINGS := own_stakeep S23_COMPACT_STRINGS K33 all0
  have S35_SIOOBE_FORMATTER := own_stakeep S24_SIOOBE_FORMATTER K33 all0
  have N33 := Fr.app N22 Nq33
  have O33 := O22.keep K33 all0
  have Z33 : n0 ≤ T33.heap.size := Nat.le_trans Z22 K33.1
  show GoP p e below Φ (T33.setTop (mkF m 40 #[.val (.int p1), .val (.int p2), .val (.int p3), .val (.int ln), .val (.int lm), .val (.ref sa1), .val (.ref sa4), .unset, .unset] [(.ref r)]))
  refine own_astore X33 hx hby at_40 rfl (Ls' := #[.val (.int p1), .val (.int p2), .val (.int p3), .val (.int ln), .val (.int lm), .val (.ref sa1), .val (.ref sa4), .val (.ref r), .unset]) rfl (pc' := 42) rfl ?_
  refine own_aload X33 hx hby at_42 rfl rfl (pc' := 44) rfl ?_
  refine own_ifnonnullY X33 hx hby at_44 (by decide) (pc' := 49) (by decide) ?_
  refine own_aload X33 hx hby at_49 rfl rfl (pc' := 51) rfl ?_
  refine own_callV X33 hx hby hZ (by exact hml) hown (own_w hw 178 rfl) (own_w hw 96 rfl) (own_w hw 98 rfl) (own_w hw 97 rfl) (own_w hw 6 rfl) (own_w hw 99 rfl) (by decide) rfl 0 (by decide) (by decide) (by decide) (by decide) (argsL := []) (rest := []) (lenOf pd___I rfl) rfl (Nat.le_of_eq rfl) E33 (rmLn l Z a0 hw r bb cs ((ln + (1 : Int32)) + lm) (own_all ln lm p1 p2) T33.heap hcs S34_COMPACT_STRINGS E33 FC33 FV33 V33 (own_alllen fln flm p1 p2)) at_51 (pc' := 54) rfl ?_
  intro v36 T36 L36 X36 hQ36
  obtain ⟨rfl, rfl, e36⟩ := hQ36
  rw [List.append_nil] at X36
  replace e36 : T36.heap = T33.heap := e36
  show GoP p e below Φ (T36.setTop (mkF m 54 #[.val (.int p1), .val (.int p2), .val (.int p3), .val (.int ln), .val (.int lm), .val (.ref sa1), .val (.ref sa4), .val (.ref r), .unset] [(.int ((ln + (1 : Int32)) + lm))]))
  refine own_iloadN X36 hx hby at_54 rfl (pc' := 55) rfl ?_
  refine own_iconst X36 hx hby at_55 (v := (1 : Int32)) rfl (pc' := 56) rfl ?_
  refine own_iadd X36 hx hby at_56 (pc' := 57) rfl ?_
  refine own_iload X36 hx hby at_57 rfl (pc' := 59) rfl ?_
  refine own_iadd X36 hx hby at_59 (pc' := 60) rfl ?_
  refine own_icmpY X36 hx hby at_60 (teq rfl).1 (by decide) (pc' := 65) (by decide) ?_
  refine own_iconst X36 hx hby at_65 (v := (1 : Int32)) rfl (pc' := 66) rfl ?_
  refine own_istore X36 hx hby at_66  (Ls' := #[.val (.int p1), .val (.int p2), .val (.int p3), .val (.int ln), .val (.int lm), .val (.ref sa1), .val (.ref sa4), .val (.ref r), .val (.int (1 : Int32))]) rfl (pc' := 68) rfl ?_
  refine own_join X36 e36 (f := mkF m 98 #[.val (.int p1), .val (.int p2), .val (.int p3), .val (.int ln), .val (.int lm), .val (.ref sa1), .val (.ref sa4), .val (.ref r), .val (.int (1 : Int32))] []) ?_ ?_
  · intro Tj37 Xj37 ej37
    refine own_join Xj37 ej37 (f := mkF m 129 #[.val (.int p1), .val (.int p2), .val (.int p3), .val (.int ln), .val (.int lm), .val (.ref sa1), .val (.ref sa4), .val (.ref r), .val (.int (1 : Int32))] []) ?_ ?_
    · intro Tj38 Xj38 ej38
      refine own_join Xj38 ej38 (f := mkF m 160 #[.val (.int p1), .val (.int p2), .val (.int p3), .val (.int ln), .val (.int lm), .val (.ref sa1), .val (.ref sa4), .val (.ref r), .val (.int (1 : Int32))] []) ?_ ?_
      · intro Tj39 Xj39 ej39
        refine own_iload Xj39 hx hby at_160 rfl (pc' := 162) rfl ?_
        refine own_ifN Xj39 hx hby at_162 ((if0 _ _).trans (feq (by decide)).1) (pc' := 165) rfl ?_
        refine own_aload Xj39 hx hby at_165 rfl rfl (pc' := 167) rfl ?_
        refine own_iloadN Xj39 hx hby at_167 rfl (pc' := 168) rfl ?_
        refine own_callV Xj39 hx hby hZ (by exact hml) hown (own_w hw 179 rfl) (own_w hw 180 rfl) (own_w hw 182 rfl) (own_w hw 181 rfl) (own_w hw 6 rfl) (own_w hw 183 rfl) (by decide) ej39 0 (by decide) (by decide) (by decide) (by decide) (argsL := [(.int ln)]) (rest := []) (lenOf pd__I_C rfl) rfl (Nat.le_of_eq rfl) E33 (rmCA l Z a0 hw r bb cs ln ((ln + (1 : Int32)) + lm) (32 : Int32) (32 : Int32) (own_all ln lm p1 p2) wf T33.heap hcs S34_COMPACT_STRINGS hwf hwc S35_SIOOBE_FORMATTER E33 FC33 FV33 V33 (own_alllen fln flm p1 p2) (own_a3 fln flm p1 p2).1 (own_a3 fln flm p1 p2).2.1 (own_a3 fln flm p1 p2).2.2 own_uc32 rfl) at_168 (pc' := 171) rfl ?_
        intro v40 T40 L40 X40 hQ40
        obtain ⟨rfl, rfl, e40⟩ := hQ40
        rw [List.append_nil] at X40
        replace e40 : T40.heap = T33.heap := e40
        show GoP p e below Φ (T40.setTop (mkF m 171 #[.val (.int p1), .val (.int p2), .val (.int p3), .val (.int ln), .val (.int lm), .val (.ref sa1), .val (.ref sa4), .val (.ref r), .val (.int (1 : Int32))] [(.int (32 : Int32))]))
        refine own_bipush X40 hx hby at_171 (v := (32 : Int32)) rfl (pc' := 173) rfl ?_
        refine own_icmpN X40 hx hby at_173 (teq (by decide)).2 (pc' := 176) rfl ?_
        refine own_iconst X40 hx hby at_176 (v := (1 : Int32)) rfl (pc' := 177) rfl ?_
        refine own_goto X40 hx hby at_177 (by decide) (pc' := 181) (by decide) ?_
        refine own_istore X40 hx hby at_181  (Ls' := #[.val (.int p1), .val (.int p2), .val (.int p3), .val (.int ln), .val (.int lm), .val (.ref sa1), .val (.ref sa4), .val (.ref r), .val (.int (1 : Int32))]) rfl (pc' := 183) rfl ?_
        refine own_join X40 e40 (f := mkF m 216 #[.val (.int p1), .val (.int p2), .val (.int p3), .val (.int ln), .val (.int lm), .val (.ref sa1), .val (.ref sa4), .val (.ref r), .val (.int (1 : Int32))] []) ?_ ?_
        · intro Tj41 Xj41 ej41
          refine own_join Xj41 ej41 (f := mkF m 250 #[.val (.int p1), .val (.int p2), .val (.int p3), .val (.int ln), .val (.int lm), .val (.ref sa1), .val (.ref sa4), .val (.ref r), .val (.int (1 : Int32))] []) ?_ ?_
          · intro Tj42 Xj42 ej42
            refine own_join Xj42 ej42 (f := mkF m 284 #[.val (.int p1), .val (.int p2), .val (.int p3), .val (.int ln), .val (.int lm), .val (.ref sa1), .val (.ref sa4), .val (.ref r), .val (.int (1 : Int32))] []) ?_ ?_
            · intro Tj43 Xj43 ej43
              refine own_iload Xj43 hx hby at_284 rfl (pc' := 286) rfl ?_
              exact own_retN Xj43 hx hby (fin _ _ hS) hret (by simp) rfl at_286 (by decide) (by decide) ⟨⟨rfl, N33⟩, (by rw [ej43]; exact hk)⟩
            intro J43
            refine own_iload Xj42 hx hby at_250 rfl (pc' := 252) rfl ?_
            refine own_iconst Xj42 hx hby at_252 (v := (2 : Int32)) rfl (pc' := 253) rfl ?_
            by_cases hc253_44 : (2 : Int32) < lm
            · refine own_icmpN Xj42 hx hby at_253 (tlt hc253_44).2.2.2 (pc' := 256) rfl ?_
              refine own_iload Xj42 hx hby at_256 rfl (pc' := 258) rfl ?_
              refine own_ifN Xj42 hx hby at_258 ((if0 _ _).trans (feq (by decide)).1) (pc' := 261) rfl ?_
              refine own_aload Xj42 hx hby at_261 rfl rfl (pc' := 263) rfl ?_
              refine own_iloadN Xj42 hx hby at_263 rfl (pc' := 264) rfl ?_
              refine own_iconst Xj42 hx hby at_264 (v := (3 : Int32)) rfl (pc' := 265) rfl ?_
              refine own_iadd Xj42 hx hby at_265 (pc' := 266) rfl ?_
              refine own_callV Xj42 hx hby hZ (by exact hml) hown (own_w hw 179 rfl) (own_w hw 180 rfl) (own_w hw 182 rfl) (own_w hw 181 rfl) (own_w hw 6 rfl) (own_w hw 183 rfl) (by decide) ej42 0 (by decide) (by decide) (by decide) (by decide) (argsL := [(.int (ln + (3 : Int32)))]) (rest := []) (lenOf pd__I_C rfl) rfl (Nat.le_of_eq rfl) E33 (rmCA l Z a0 hw r bb cs (ln + (3 : Int32)) ((ln + (1 : Int32)) + lm) (own_by p2 (2 : Int32)) (own_chr p2 (2 : Int32)) (own_all ln lm p1 p2) wf T33.heap hcs S34_COMPACT_STRINGS hwf hwc S35_SIOOBE_FORMATTER E33 FC33 FV33 V33 (own_alllen fln flm p1 p2) (own_b2 fln flm p1 p2 hc253_44).1 (own_b2 fln flm p1 p2 hc253_44).2.1 (own_b2 fln flm p1 p2 hc253_44).2.2 (own_ucby _ _) (own_narC _)) at_266 (pc' := 269) rfl ?_
              intro v45 T45 L45 X45 hQ45
              obtain ⟨rfl, rfl, e45⟩ := hQ45
              rw [List.append_nil] at X45
              replace e45 : T45.heap = T33.heap := e45
              show GoP p e below Φ (T45.setTop (mkF m 269 #[.val (.int p1), .val (.int p2), .val (.int p3), .val (.int ln), .val (.int lm), .val (.ref sa1), .val (.ref sa4), .val (.ref r), .val (.int (1 : Int32))] [(.int (own_chr p2 (2 : Int32)))]))
              refine own_iloadN X45 hx hby at_269 rfl (pc' := 270) rfl ?_
              refine own_iconst X45 hx hby at_270 (v := (2 : Int32)) rfl (pc' := 271) rfl ?_
              refine own_callS X45 hx hby hZ (by exact hml) hown (own_w hw 8 rfl) (own_w hw 9 rfl) (own_w hw 2 rfl) (own_w hw 10 rfl) (by decide) e45 1 (by decide) (by decide) (by decide) (by decide) (argsL := [(.int p2), (.int (2 : Int32))]) (rest := [(.int (own_chr p2 (2 : Int32)))]) (lenOf pd__II_C rfl) rfl (rmCh l Z a0 hw p2 (2 : Int32) T33.heap) (Nat.le_of_eq rfl) at_271 (pc' := 274) rfl ?_
              intro v46 T46 L46 X46 hQ46
              obtain ⟨rfl, rfl, e46⟩ := hQ46
              rw [List.append_nil] at X46
              replace e46 : T46.heap = T33.heap := e46
              show GoP p e below Φ (T46.setTop (mkF m 274 #[.val (.int p1), .val (.int p2), .val (.int p3), .val (.int ln), .val (.int lm), .val (.ref sa1), .val (.ref sa4), .val (.ref r), .val (.int (1 : Int32))] [(.int (own_chr p2 (2 : Int32))), (.int (own_chr p2 (2 : Int32)))]))
              refine own_icmpN X46 hx hby at_274 (teq rfl).2 (pc' := 277) rfl ?_
              refine own_iconst X46 hx hby at_277 (v := (1 : Int32)) rfl (pc' := 278) rfl ?_
              refine own_goto X46 hx hby at_278 (by decide) (pc' := 282) (by decide) ?_
              refine own_istore X46 hx hby at_282  (Ls' := #[.val (.int p1), .val (.int p2), .val (.int p3), .val (.int ln), .val (.int lm), .val (.ref sa1), .val (.ref sa4), .val (.ref r), .val (.int (1 : Int32))]) rfl (pc' := 284) rfl ?_
              exact J43 T46 X46 e46
            · refine own_icmpY Xj42 hx hby at_253 (flt hc253_44).2.2.2 (by decide) (pc' := 284) (by decide) ?_
              exact J43 Tj42 Xj42 ej42
          intro J42
          refine own_iload Xj41 hx hby at_216 rfl (pc' := 218) rfl ?_
          refine own_iconst Xj41 hx hby at_218 (v := (1 : Int32)) rfl (pc' := 219) rfl ?_
          by_cases hc219_47 : (1 : Int32) < lm
          · refine own_icmpN Xj41 hx hby at_219 (tlt hc219_47).2.2.2 (pc' := 222) rfl ?_
            refine own_iload Xj41 hx hby at_222 rfl (pc' := 224) rfl ?_
            refine own_ifN Xj41 hx hby at_224 ((if0 _ _).trans (feq (by decide)).1) (pc' := 227) rfl ?_
            refine own_aload Xj41 hx hby at_227 rfl rfl (pc' := 229) rfl ?_
            refine own_iloadN Xj41 hx hby at_229 rfl (pc' := 230) rfl ?_
            refine own_iconst Xj41 hx hby at_230 (v := (2 : Int32)) rfl (pc' := 231) rfl ?_
            refine own_iadd Xj41 hx hby at_231 (pc' := 232) rfl ?_
            refine own_callV Xj41 hx hby hZ (by exact hml) hown (own_w hw 179 rfl) (own_w hw 180 rfl) (own_w hw 182 rfl) (own_w hw 181 rfl) (own_w hw 6 rfl) (own_w hw 183 rfl) (by decide) ej41 0 (by decide) (by decide) (by decide) (by decide) (argsL := [(.int (ln + (2 : Int32)))]) (rest := []) (lenOf pd__I_C rfl) rfl (Nat.le_of_eq rfl) E33 (rmCA l Z a0 hw r bb cs (ln + (2 : Int32)) ((ln + (1 : Int32)) + lm) (own_by p2 (1 : Int32)) (own_chr p2 (1 : Int32)) (own_all ln lm p1 p2) wf T33.heap hcs S34_COMPACT_STRINGS hwf hwc S35_SIOOBE_FORMATTER E33 FC33 FV33 V33 (own_alllen fln flm p1 p2) (own_b1 fln flm p1 p2 hc219_47).1 (own_b1 fln flm p1 p2 hc219_47).2.1 (own_b1 fln flm p1 p2 hc219_47).2.2 (own_ucby _ _) (own_narC _)) at_232 (pc' := 235) rfl ?_
            intro v48 T48 L48 X48 hQ48
            obtain ⟨rfl, rfl, e48⟩ := hQ48
            rw [List.append_nil] at X48
            replace e48 : T48.heap = T33.heap := e48
            show GoP p e below Φ (T48.setTop (mkF m 235 #[.val (.int p1), .val (.int p2), .val (.int p3), .val (.int ln), .val (.int lm), .val (.ref sa1), .val (.ref sa4), .val (.ref r), .val (.int (1 : Int32))] [(.int (own_chr p2 (1 : Int32)))]))
            refine own_iloadN X48 hx hby at_235 rfl (pc' := 236) rfl ?_
            refine own_iconst X48 hx hby at_236 (v := (1 : Int32)) rfl (pc' := 237) rfl ?_
            refine own_callS X48 hx hby hZ (by exact hml) hown (own_w hw 8 rfl) (own_w hw 9 rfl) (own_w hw 2 rfl) (own_w hw 10 rfl) (by decide) e48 1 (by decide) (by decide) (by decide) (by decide) (argsL := [(.int p2), (.int (1 : Int32))]) (rest := [(.int (own_chr p2 (1 : Int32)))]) (lenOf pd__II_C rfl) rfl (rmCh l Z a0 hw p2 (1 : Int32) T33.heap) (Nat.le_of_eq rfl) at_237 (pc' := 240) rfl ?_
            intro v49 T49 L49 X49 hQ49
            obtain ⟨rfl, rfl, e49⟩ := hQ49
            rw [List.append_nil] at X49
            replace e49 : T49.heap = T33.heap := e49
            show GoP p e below Φ (T49.setTop (mkF m 240 #[.val (.int p1), .val (.int p2), .val (.int p3), .val (.int ln), .val (.int lm), .val (.ref sa1), .val (.ref sa4), .val (.ref r), .val (.int (1 : Int32))] [(.int (own_chr p2 (1 : Int32))), (.int (own_chr p2 (1 : Int32)))]))
            refine own_icmpN X49 hx hby at_240 (teq rfl).2 (pc' := 243) rfl ?_
            refine own_iconst X49 hx hby at_243 (v := (1 : Int32)) rfl (pc' := 244) rfl ?_
            refine own_goto X49 hx hby at_244 (by decide) (pc' := 248) (by decide) ?_
            refine own_istore X49 hx hby at_248  (Ls' := #[.val (.int p1), .val (.int p2), .val (.int p3), .val (.int ln), .val (.int lm), .val (.ref sa1), .val (.ref sa4), .val (.ref r), .val (.int (1 : Int32))]) rfl (pc' := 250) rfl ?_
            exact J42 T49 X49 e49
          · refine own_icmpY Xj41 hx hby at_219 (flt hc219_47).2.2.2 (by decide) (pc' := 250) (by decide) ?_
            exact J42 Tj41 Xj41 ej41
        intro J41
        refine own_iload X40 hx hby at_183 rfl (pc' := 185) rfl ?_
        by_cases hc185_50 : (0 : Int32) < lm
        · refine own_ifN X40 hx hby at_185 ((if0 _ _).trans (tlt hc185_50).2.2.2) (pc' := 188) rfl ?_
          refine own_iload X40 hx hby at_188 rfl (pc' := 190) rfl ?_
          refine own_ifN X40 hx hby at_190 ((if0 _ _).trans (feq (by decide)).1) (pc' := 193) rfl ?_
          refine own_aload X40 hx hby at_193 rfl rfl (pc' := 195) rfl ?_
          refine own_iloadN X40 hx hby at_195 rfl (pc' := 196) rfl ?_
          refine own_iconst X40 hx hby at_196 (v := (1 : Int32)) rfl (pc' := 197) rfl ?_
          refine own_iadd X40 hx hby at_197 (pc' := 198) rfl ?_
          refine own_callV X40 hx hby hZ (by exact hml) hown (own_w hw 179 rfl) (own_w hw 180 rfl) (own_w hw 182 rfl) (own_w hw 181 rfl) (own_w hw 6 rfl) (own_w hw 183 rfl) (by decide) e40 0 (by decide) (by decide) (by decide) (by decide) (argsL := [(.int (ln + (1 : Int32)))]) (rest := []) (lenOf pd__I_C rfl) rfl (Nat.le_of_eq rfl) E33 (rmCA l Z a0 hw r bb cs (ln + (1 : Int32)) ((ln + (1 : Int32)) + lm) (own_by p2 (0 : Int32)) (own_chr p2 (0 : Int32)) (own_all ln lm p1 p2) wf T33.heap hcs S34_COMPACT_STRINGS hwf hwc S35_SIOOBE_FORMATTER E33 FC33 FV33 V33 (own_alllen fln flm p1 p2) (own_b0 fln flm p1 p2 hc185_50).1 (own_b0 fln flm p1 p2 hc185_50).2.1 (own_b0 fln flm p1 p2 hc185_50).2.2 (own_ucby _ _) (own_narC _)) at_198 (pc' := 201) rfl ?_
          intro v51 T51 L51 X51 hQ51
          obtain ⟨rfl, rfl, e51⟩ := hQ51
          rw [List.append_nil] at X51
          replace e51 : T51.heap = T33.heap := e51
          show GoP p e below Φ (T51.setTop (mkF m 201 #[.val (.int p1), .val (.int p2), .val (.int p3), .val (.int ln), .val (.int lm), .val (.ref sa1), .val (.ref sa4), .val (.ref r), .val (.int (1 : Int32))] [(.int (own_chr p2 (0 : Int32)))]))
          refine own_iloadN X51 hx hby at_201 rfl (pc' := 202) rfl ?_
          refine own_iconst X51 hx hby at_202 (v := (0 : Int32)) rfl (pc' := 203) rfl ?_
          refine own_callS X51 hx hby hZ (by exact hml) hown (own_w hw 8 rfl) (own_w hw 9 rfl) (own_w hw 2 rfl) (own_w hw 10 rfl) (by decide) e51 1 (by decide) (by decide) (by decide) (by decide) (argsL := [(.int p2), (.int (0 : Int32))]) (rest := [(.int (own_chr p2 (0 : Int32)))]) (lenOf pd__II_C rfl) rfl (rmCh l Z a0 hw p2 (0 : Int32) T33.heap) (Nat.le_of_eq rfl) at_203 (pc' := 206) rfl ?_
          intro v52 T52 L52 X52 hQ52
          obtain ⟨rfl, rfl, e52⟩ := hQ52
          rw [List.append_nil] at X52
          replace e52 : T52.heap = T33.heap := e52
          show GoP p e below Φ (T52.setTop (mkF m 206 #[.val (.int p1), .val (.int p2), .val (.int p3), .val (.int ln), .val (.int lm), .val (.ref sa1), .val (.ref sa4), .val (.ref r), .val (.int (1 : Int32))] [(.int (own_chr p2 (0 : Int32))), (.int (own_chr p2 (0 : Int32)))]))
          refine own_icmpN X52 hx hby at_206 (teq rfl).2 (pc' := 209) rfl ?_
          refine own_iconst X52 hx hby at_209 (v := (1 : Int32)) rfl (pc' := 210) rfl ?_
          refine own_goto X52 hx hby at_210 (by decide) (pc' := 214) (by decide) ?_
          refine own_istore X52 hx hby at_214  (Ls' := #[.val (.int p1), .val (.int p2), .val (.int p3), .val (.int ln), .val (.int lm), .val (.ref sa1), .val (.ref sa4), .val (.ref r), .val (.int (1 : Int32))]) rfl (pc' := 216) rfl ?_
          exact J41 T52 X52 e52
        · refine own_ifY X40 hx hby at_185 ((if0 _ _).trans (flt hc185_50).2.2.2) (by decide) (pc' := 216) (by decide) ?_
          exact J41 T40 X40 e40
      intro J39
      refine own_iloadN Xj38 hx hby at_129 rfl (pc' := 130) rfl ?_
      refine own_iconst Xj38 hx hby at_130 (v := (2 : Int32)) rfl (pc' := 131) rfl ?_
      by_cases hc131_53 : (2 : Int32) < ln
      · refine own_icmpN Xj38 hx hby at_131 (tlt hc131_53).2.2.2 (pc' := 134) rfl ?_
        refine own_iload Xj38 hx hby at_134 rfl (pc' := 136) rfl ?_
        refine own_ifN Xj38 hx hby at_136 ((if0 _ _).trans (feq (by decide)).1) (pc' := 139) rfl ?_
        refine own_aload Xj38 hx hby at_139 rfl rfl (pc' := 141) rfl ?_
        refine own_iconst Xj38 hx hby at_141 (v := (2 : Int32)) rfl (pc' := 142) rfl ?_
        refine own_callV Xj38 hx hby hZ (by exact hml) hown (own_w hw 179 rfl) (own_w hw 180 rfl) (own_w hw 182 rfl) (own_w hw 181 rfl) (own_w hw 6 rfl) (own_w hw 183 rfl) (by decide) ej38 0 (by decide) (by decide) (by decide) (by decide) (argsL := [(.int (2 : Int32))]) (rest := []) (lenOf pd__I_C rfl) rfl (Nat.le_of_eq rfl) E33 (rmCA l Z a0 hw r bb cs (2 : Int32) ((ln + (1 : Int32)) + lm) (own_by p1 (2 : Int32)) (own_chr p1 (2 : Int32)) (own_all ln lm p1 p2) wf T33.heap hcs S34_COMPACT_STRINGS hwf hwc S35_SIOOBE_FORMATTER E33 FC33 FV33 V33 (own_alllen fln flm p1 p2) (own_a2 fln flm p1 p2 hc131_53).1 (own_a2 fln flm p1 p2 hc131_53).2.1 (own_a2 fln flm p1 p2 hc131_53).2.2 (own_ucby _ _) (own_narC _)) at_142 (pc' := 145) rfl ?_
        intro v54 T54 L54 X54 hQ54
        obtain ⟨rfl, rfl, e54⟩ := hQ54
        rw [List.append_nil] at X54
        replace e54 : T54.heap = T33.heap := e54
        show GoP p e below Φ (T54.setTop (mkF m 145 #[.val (.int p1), .val (.int p2), .val (.int p3), .val (.int ln), .val (.int lm), .val (.ref sa1), .val (.ref sa4), .val (.ref r), .val (.int (1 : Int32))] [(.int (own_chr p1 (2 : Int32)))]))
        refine own_iloadN X54 hx hby at_145 rfl (pc' := 146) rfl ?_
        refine own_iconst X54 hx hby at_146 (v := (2 : Int32)) rfl (pc' := 147) rfl ?_
        refine own_callS X54 hx hby hZ (by exact hml) hown (own_w hw 8 rfl) (own_w hw 9 rfl) (own_w hw 2 rfl) (own_w hw 10 rfl) (by decide) e54 1 (by decide) (by decide) (by decide) (by decide) (argsL := [(.int p1), (.int (2 : Int32))]) (rest := [(.int (own_chr p1 (2 : Int32)))]) (lenOf pd__II_C rfl) rfl (rmCh l Z a0 hw p1 (2 : Int32) T33.heap) (Nat.le_of_eq rfl) at_147 (pc' := 150) rfl ?_
        intro v55 T55 L55 X55 hQ55
        obtain ⟨rfl, rfl, e55⟩ := hQ55
        rw [List.append_nil] at X55
        replace e55 : T55.heap = T33.heap := e55
        show GoP p e below Φ (T55.setTop (mkF m 150 #[.val (.int p1), .val (.int p2), .val (.int p3), .val (.int ln), .val (.int lm), .val (.ref sa1), .val (.ref sa4), .val (.ref r), .val (.int (1 : Int32))] [(.int (own_chr p1 (2 : Int32))), (.int (own_chr p1 (2 : Int32)))]))
        refine own_icmpN X55 hx hby at_150 (teq rfl).2 (pc' := 153) rfl ?_
        refine own_iconst X55 hx hby at_153 (v := (1 : Int32)) rfl (pc' := 154) rfl ?_
        refine own_goto X55 hx hby at_154 (by decide) (pc' := 158) (by decide) ?_
        refine own_istore X55 hx hby at_158  (Ls' := #[.val (.int p1), .val (.int p2), .val (.int p3), .val (.int ln), .val (.int lm), .val (.ref sa1), .val (.ref sa4), .val (.ref r), .val (.int (1 : Int32))]) rfl (pc' := 160) rfl ?_
        exact J39 T55 X55 e55
      · refine own_icmpY Xj38 hx hby at_131 (flt hc131_53).2.2.2 (by decide) (pc' := 160) (by decide) ?_
        exact J39 Tj38 Xj38 ej38
    intro J38
    refine own_iloadN Xj37 hx hby at_98 rfl (pc' := 99) rfl ?_
    refine own_iconst Xj37 hx hby at_99 (v := (1 : Int32)) rfl (pc' := 100) rfl ?_
    by_cases hc100_56 : (1 : Int32) < ln
    · refine own_icmpN Xj37 hx hby at_100 (tlt hc100_56).2.2.2 (pc' := 103) rfl ?_
      refine own_iload Xj37 hx hby at_103 rfl (pc' := 105) rfl ?_
      refine own_ifN Xj37 hx hby at_105 ((if0 _ _).trans (feq (by decide)).1) (pc' := 108) rfl ?_
      refine own_aload Xj37 hx hby at_108 rfl rfl (pc' := 110) rfl ?_
      refine own_iconst Xj37 hx hby at_110 (v := (1 : Int32)) rfl (pc' := 111) rfl ?_
      refine own_callV Xj37 hx hby hZ (by exact hml) hown (own_w hw 179 rfl) (own_w hw 180 rfl) (own_w hw 182 rfl) (own_w hw 181 rfl) (own_w hw 6 rfl) (own_w hw 183 rfl) (by decide) ej37 0 (by decide) (by decide) (by decide) (by decide) (argsL := [(.int (1 : Int32))]) (rest := []) (lenOf pd__I_C rfl) rfl (Nat.le_of_eq rfl) E33 (rmCA l Z a0 hw r bb cs (1 : Int32) ((ln + (1 : Int32)) + lm) (own_by p1 (1 : Int32)) (own_chr p1 (1 : Int32)) (own_all ln lm p1 p2) wf T33.heap hcs S34_COMPACT_STRINGS hwf hwc S35_SIOOBE_FORMATTER E33 FC33 FV33 V33 (own_alllen fln flm p1 p2) (own_a1 fln flm p1 p2 hc100_56).1 (own_a1 fln flm p1 p2 hc100_56).2.1 (own_a1 fln flm p1 p2 hc100_56).2.2 (own_ucby _ _) (own_narC _)) at_111 (pc' := 114) rfl ?_
      intro v57 T57 L57 X57 hQ57
      obtain ⟨rfl, rfl, e57⟩ := hQ57
      rw [List.append_nil] at X57
      replace e57 : T57.heap = T33.heap := e57
      show GoP p e below Φ (T57.setTop (mkF m 114 #[.val (.int p1), .val (.int p2), .val (.int p3), .val (.int ln), .val (.int lm), .val (.ref sa1), .val (.ref sa4), .val (.ref r), .val (.int (1 : Int32))] [(.int (own_chr p1 (1 : Int32)))]))
      refine own_iloadN X57 hx hby at_114 rfl (pc' := 115) rfl ?_
      refine own_iconst X57 hx hby at_115 (v := (1 : Int32)) rfl (pc' := 116) rfl ?_
      refine own_callS X57 hx hby hZ (by exact hml) hown (own_w hw 8 rfl) (own_w hw 9 rfl) (own_w hw 2 rfl) (own_w hw 10 rfl) (by decide) e57 1 (by decide) (by decide) (by decide) (by decide) (argsL := [(.int p1), (.int (1 : Int32))]) (rest := [(.int (own_chr p1 (1 : Int32)))]) (lenOf pd__II_C rfl) rfl (rmCh l Z a0 hw p1 (1 : Int32) T33.heap) (Nat.le_of_eq rfl) at_116 (pc' := 119) rfl ?_
      intro v58 T58 L58 X58 hQ58
      obtain ⟨rfl, rfl, e58⟩ := hQ58
      rw [List.append_nil] at X58
      replace e58 : T58.heap = T33.heap := e58
      show GoP p e below Φ (T58.setTop (mkF m 119 #[.val (.int p1), .val (.int p2), .val (.int p3), .val (.int ln), .val (.int lm), .val (.ref sa1), .val (.ref sa4), .val (.ref r), .val (.int (1 : Int32))] [(.int (own_chr p1 (1 : Int32))), (.int (own_chr p1 (1 : Int32)))]))
      refine own_icmpN X58 hx hby at_119 (teq rfl).2 (pc' := 122) rfl ?_
      refine own_iconst X58 hx hby at_122 (v := (1 : Int32)) rfl (pc' := 123) rfl ?_
      refine own_goto X58 hx hby at_123 (by decide) (pc' := 127) (by decide) ?_
      refine own_istore X58 hx hby at_127  (Ls' := #[.val (.int p1), .val (.int p2), .val (.int p3), .val (.int ln), .val (.int lm), .val (.ref sa1), .val (.ref sa4), .val (.ref r), .val (.int (1 : Int32))]) rfl (pc' := 129) rfl ?_
      exact J38 T58 X58 e58
    · refine own_icmpY Xj37 hx hby at_100 (flt hc100_56).2.2.2 (by decide) (pc' := 129) (by decide) ?_
      exact J38 Tj37 Xj37 ej37
  intro J37
  refine own_iloadN X36 hx hby at_68 rfl (pc' := 69) rfl ?_
  by_cases hc69_59 : (0 : Int32) < ln
  · refine own_ifN X36 hx hby at_69 ((if0 _ _).trans (tlt hc69_59).2.2.2) (pc' := 72) rfl ?_
    refine own_iload X36 hx hby at_72 rfl (pc' := 74) rfl ?_
    refine own_ifN X36 hx hby at_74 ((if0 _ _).trans (feq (by decide)).1) (pc' := 77) rfl ?_
    refine own_aload X36 hx hby at_77 rfl rfl (pc' := 79) rfl ?_
    refine own_iconst X36 hx hby at_79 (v := (0 : Int32)) rfl (pc' := 80) rfl ?_
    refine own_callV X36 hx hby hZ (by exact hml) hown (own_w hw 179 rfl) (own_w hw 180 rfl) (own_w hw 182 rfl) (own_w hw 181 rfl) (own_w hw 6 rfl) (own_w hw 183 rfl) (by decide) e36 0 (by decide) (by decide) (by decide) (by decide) (argsL := [(.int (0 : Int32))]) (rest := []) (lenOf pd__I_C rfl) rfl (Nat.le_of_eq rfl) E33 (rmCA l Z a0 hw r bb cs (0 : Int32) ((ln + (1 : Int32)) + lm) (own_by p1 (0 : Int32)) (own_chr p1 (0 : Int32)) (own_all ln lm p1 p2) wf T33.heap hcs S34_COMPACT_STRINGS hwf hwc S35_SIOOBE_FORMATTER E33 FC33 FV33 V33 (own_alllen fln flm p1 p2) (own_a0 fln flm p1 p2 hc69_59).1 (own_a0 fln flm p1 p2 hc69_59).2.1 (own_a0 fln flm p1 p2 hc69_59).2.2 (own_ucby _ _) (own_narC _)) at_80 (pc' := 83) rfl ?_
    intro v60 T60 L60 X60 hQ60
    obtain ⟨rfl, rfl, e60⟩ := hQ60
    rw [List.append_nil] at X60
    replace e60 : T60.heap = T33.heap := e60
    show GoP p e below Φ (T60.setTop (mkF m 83 #[.val (.int p1), .val (.int p2), .val (.int p3), .val (.int ln), .val (.int lm), .val (.ref sa1), .val (.ref sa4), .val (.ref r), .val (.int (1 : Int32))] [(.int (own_chr p1 (0 : Int32)))]))
    refine own_iloadN X60 hx hby at_83 rfl (pc' := 84) rfl ?_
    refine own_iconst X60 hx hby at_84 (v := (0 : Int32)) rfl (pc' := 85) rfl ?_
    refine own_callS X60 hx hby hZ (by exact hml) hown (own_w hw 8 rfl) (own_w hw 9 rfl) (own_w hw 2 rfl) (own_w hw 10 rfl) (by decide) e60 1 (by decide) (by decide) (by decide) (by decide) (argsL := [(.int p1), (.int (0 : Int32))]) (rest := [(.int (own_chr p1 (0 : Int32)))]) (lenOf pd__II_C rfl) rfl (rmCh l Z a0 hw p1 (0 : Int32) T33.heap) (Nat.le_of_eq rfl) at_85 (pc' := 88) rfl ?_
    intro v61 T61 L61 X61 hQ61
    obtain ⟨rfl, rfl, e61⟩ := hQ61
    rw [List.append_nil] at X61
    replace e61 : T61.heap = T33.heap := e61
    show GoP p e below Φ (T61.setTop (mkF m 88 #[.val (.int p1), .val (.int p2), .val (.int p3), .val (.int ln), .val (.int lm), .val (.ref sa1), .val (.ref sa4), .val (.ref r), .val (.int (1 : Int32))] [(.int (own_chr p1 (0 : Int32))), (.int (own_chr p1 (0 : Int32)))]))
    refine own_icmpN X61 hx hby at_88 (teq rfl).2 (pc' := 91) rfl ?_
    refine own_iconst X61 hx hby at_91 (v := (1 : Int32)) rfl (pc' := 92) rfl ?_
    refine own_goto X61 hx hby at_92 (by decide) (pc' := 96) (by decide) ?_
    refine own_istore X61 hx hby at_96  (Ls' := #[.val (.int p1), .val (.int p2), .val (.int p3), .val (.int ln), .val (.int lm), .val (.ref sa1), .val (.ref sa4), .val (.ref r), .val (.int (1 : Int32))]) rfl (pc' := 98) rfl ?_
    exact J37 T61 X61 e61
  · refine own_ifY X36 hx hby at_69 ((if0 _ _).trans (flt hc69_59).2.2.2) (by decide) (pc' := 98) (by decide) ?_
    exact J37 T36 X36 e36
set_option maxRecDepth 65536 in
set_option maxHeartbeats 40000000 in
theorem comes_1 {Post : Tables → Env → Array Value → State → Outcome → State → Prop} (hpost : ∀ tb e args s v u, (limb_1_1.after args s (.returned v) u = true ∧ limb_1_2.after args s (.returned v) u = true ∧ True) → ReturnedEndW s (.returned v) u (Jvm.fieldLocs frame_1_writes args s ++ Jvm.arrayLocs frame_1_arrays args s ++ Jvm.staticLocs frame_1_statics s) 40 4288 → Post tb e args s (.returned v) u) :
    ArmFor flags0 classFile x code maxLocals ret World_1 tables_1 room_1 Calls_1 rest_1 Pre_1 Post := by
  intro l hfl _ _ p e ha hc hk s m args below hf hA hF happ hP
  obtain ⟨hcalls, hrest, hpre⟩ := hP
  obtain ⟨-, -, -, hnamed, -, -, -, hat⟩ := (Spec.applies_iff hf).mp happ
  obtain ⟨hg, hn⟩ := and_e (Cond.before_iff.mp (show (Jvm.Cond.and given_1 narrow_1).before args s = true from hpre))
  obtain ⟨g0, hg⟩ := and_e hg
  obtain ⟨w0, w1, w2, rfl⟩ : ∃ w0 w1 w2 : Value, args = #[w0, w1, w2] := by
    have hs : args.size = 3 := by simpa [Cond.value, given_1] using g0
    obtain ⟨L⟩ := args
    match L, hs with
    | [w0, w1, w2], _ => exact ⟨w0, w1, w2, rfl⟩
  obtain ⟨q0, hg⟩ := and_e hg
  obtain ⟨q1, hg⟩ := and_e hg
  have q2 := hg
  have hw := fun d (hd : d ∈ tables_1) => atoms_spec (ws := Jvm.Cond.code x code maxLocals ret :: tables_1) hat d (List.mem_cons_of_mem _ hd)
  have hfit : Fit s := fun {y c} hc i hi => by
    obtain ⟨ha, rfl⟩ := Array.getElem?_eq_some_iff.mp hc
    have q := List.all_eq_true.mp ((Array.all_eq_true_iff_forall_mem.mp hF) _ (Array.getElem_mem ha)) i (List.mem_range.mpr hi)
    simpa [Array.getElem?_eq_getElem hi] using q
  have hsets := (atoms_of jdkStatics_1 (own := restOwn_1) (by rw [← rest_1_c_eq]; exact hrest)).1
  obtain ⟨i0, f0⟩ := is_v q0
  obtain rfl : w0 = (.int i0) := Option.some.inj f0
  obtain ⟨i1, f1⟩ := is_v q1
  obtain rfl : w1 = (.int i1) := Option.some.inj f1
  obtain ⟨i2, f2⟩ := is_v q2
  obtain rfl : w2 = (.int i2) := Option.some.inj f2
  obtain ⟨cs, ecs⟩ := is_v (Cond.before_iff.mp (own_w hsets 1 rfl))
  have Scs := Sta.start ecs (Or.inl (own_w hsets 0 rfl))
  have hcs : ¬ cs = (0 : Int32) := fun q => by
    subst q
    have u := not_v (Cond.before_iff.mp (own_w hsets 2 rfl))
    rw [eq_i ecs (Term.int_eval 0) rfl] at u
    simp at u
  obtain ⟨wf, ewf, hwf⟩ := isR_v (Cond.before_iff.mp (own_w hsets 8 rfl))
  have Sf := Sta.start ewf (Or.inl (own_w hsets 7 rfl))
  have hwc : wf.category = 1 := by rcases ref_cases hwf with rfl | ⟨a, rfl⟩ <;> rfl
  obtain ⟨n, o, h1, h2, h3, _, L, rfl, ⟨rfl, N⟩, hq⟩ := rm0 l s _ hw i0 i1 i2 cs wf s.heap.size s.heap (Nat.le_refl _) (Old.start s) (hcalls.1 _ (List.mem_of_getElem? (i := 3) rfl)) (hcalls.1 _ (List.mem_of_getElem? (i := 0) rfl)) (hcalls.1 _ (List.mem_of_getElem? (i := 1) rfl)) (hcalls.1 _ (List.mem_of_getElem? (i := 2) rfl)) (own_w hsets 2 rfl) hwf hwc Sf hcs Scs p e ha hc hk s m _ below hf ((Spec.applies_iff_loose hf).mp happ).1 ⟨rfl, State.Warmed39.refl s, rfl, IB.start⟩ trivial
  refine ⟨n, _, h1, h2, h3, hpost _ _ _ _ _ _ ⟨Cond.after_iff.mpr rfl, Cond.after_iff.mpr (eq_i res_at (Term.int_eval (1)) rfl), trivial⟩ ⟨hq.1, hq.2.1, hq.2.2.1, (hq.2.2.2.sift fun y hy => Or.inr (N y hy)).mono (by decide) (by decide)⟩⟩
theorem main_1_1 : Claimed_1_1 := comes_1 fun _ _ _ _ _ _ h hF => ⟨h.1, hF⟩
theorem main_1_2 : Claimed_1_2 := comes_1 fun _ _ _ _ _ _ h hF => ⟨h.2.1, hF⟩
end Jvm.Pilot.@@N@@
namespace Jvm.Pilot.@@N@@
open Jvm Jvm.ClassFile Sem Op Lib Jvm.Free Jvm.Stand Jvm.Pilot.@@N@@.Jvm.D
/-! MADE BY PROGRAM (witnessworld.py) out of the Statement's table words and the real class files: 28 classes; the members and pool entries that the words name. The judged class is class 1, her method 1. -/
namespace start1
open Jvm.ClassFile
def u (s : String) : CpInfo := .utf8 (stringToUtf16 s)
/-- a pool by its gaps: so many unusable entries, then the entry; so many at the end -/
def gap : Nat → List CpInfo → List CpInfo
  | 0, r => r
  | n + 1, r => .unusable :: gap n r
def poolList (es : List (Nat × CpInfo)) (last : Nat) : List CpInfo := es.foldr (fun e r => gap e.1 (e.2 :: r)) (gap last [])
def pool (es : List (Nat × CpInfo)) (last : Nat) : Array CpInfo := ⟨poolList es last⟩
def fileOf (pool : Array CpInfo) (this : Nat) (attrs : Array Attribute := #[]) (ms : Array MethodInfo := #[]) (fl : Nat := 33) (sup : Nat := 0) (ifs : Array Nat := #[]) (fds : Array FieldInfo := #[]) : ClassFile where
  minorVersion := 0
  majorVersion := 65
  constantPool := pool
  accessFlags := fl
  thisClass := this
  superClass := sup
  interfaces := ifs
  fields := fds
  methods := ms
  attributes := attrs
def plain (name : String) (sup : Option ClassId) : Class where
  name := name
  kind := .ordinary
  loader := none
  accessFlags := 33
  super := sup
  interfaces := #[]
  cf := none
  fields := #[]
  methods := #[]
  instanceTypes := #[]
  staticTypes := #[]
  resolved := #[]
  callSites := []
  init := .initialized
  statics := none
  mirror := none

def pool0 : Array CpInfo := pool [(5, u "<init>"), (0, u "()V"), (1, .class_ 10), (1, u "java/lang/Object")] 113

def k0c0 : Code := { maxStack := 0, maxLocals := 1, code := object_method_1_code, exceptionTable := #[], attributes := #[] }
def k0m0 : Method := { name := "<init>", desc := "()V", sig := { parameters := [], returnType := none }, accessFlags := 1, code := some k0c0 }
/-- java/lang/Object -/
def k0 : Class := { plain "java/lang/Object" none with
  accessFlags := 33
  interfaces := #[]
  cf := some (fileOf pool0 8 #[] #[{ accessFlags := 1, nameIndex := 5, descriptorIndex := 6, attributes := #[] }] 33 0 #[] #[])
  fields := #[]
  methods := #[k0m0]
  instanceTypes := #[]
  staticTypes := #[]
  resolved := Array.replicate 124 none
  statics := none }

def pool1 : Array CpInfo := pool [(2, .class_ 4), (1, u "java/lang/Object"), (0, u "<init>"), (0, u "()V"), (0, .methodref 8 9), (0, .class_ 10), (0, .nameAndType 11 12), (0, u "com/example/mailhelm/mailhelm/model/SourceToStringPinLaw"), (0, u "mk"), (0, u "(II)Ljava/lang/String;"), (0, .class_ 14), (0, u "com/example/mailhelm/mailhelm/model/Source"), (0, .methodref 13 16), (0, .nameAndType 5 17), (0, u "(Ljava/lang/String;Ljava/lang/String;)V"), (0, .methodref 13 19), (0, .nameAndType 20 21), (0, u "toString"), (0, u "()Ljava/lang/String;"), (0, .methodref 23 24), (0, .class_ 25), (0, .nameAndType 26 27), (0, u "java/lang/String"), (0, u "length"), (0, u "()I"), (0, .methodref 23 29), (0, .nameAndType 30 31), (0, u "charAt"), (0, u "(I)C"), (0, .methodref 8 33), (0, .nameAndType 34 35), (0, u "ch"), (0, u "(II)C"), (0, .methodref 23 37), (0, .nameAndType 5 38), (0, u "([C)V"), (2, u "law"), (0, u "(III)Z")] 3

def k1m0 : Method := { name := "<init>", desc := "()V", sig := { parameters := [], returnType := none }, accessFlags := 1, code := none }
def k1c1 : Code := { maxStack := 4, maxLocals := 9, code := code, exceptionTable := #[], attributes := #[] }
def k1m1 : Method := { name := "law", desc := "(III)Z", sig := { parameters := [.int, .int, .int], returnType := some .boolean }, accessFlags := 9, code := some k1c1 }
def k1c2 : Code := { maxStack := 3, maxLocals := 2, code := method_3_code, exceptionTable := #[], attributes := #[] }
def k1m2 : Method := { name := "ch", desc := "(II)C", sig := { parameters := [.int, .int], returnType := some .char }, accessFlags := 10, code := some k1c2 }
def k1c3 : Code := { maxStack := 7, maxLocals := 2, code := method_4_code, exceptionTable := #[], attributes := #[] }
def k1m3 : Method := { name := "mk", desc := "(II)Ljava/lang/String;", sig := { parameters := [.int, .int], returnType := some (.object "java/lang/String") }, accessFlags := 10, code := some k1c3 }
/-- com/example/mailhelm/mailhelm/model/SourceToStringPinLaw -/
def k1 : Class := { plain "com/example/mailhelm/mailhelm/model/SourceToStringPinLaw" (some 0) with
  accessFlags := 49
  interfaces := #[]
  cf := some (fileOf pool1 8 #[] #[{ accessFlags := 1, nameIndex := 5, descriptorIndex := 6, attributes := #[] }, { accessFlags := 9, nameIndex := 41, descriptorIndex := 42, attributes := #[] }, { accessFlags := 10, nameIndex := 34, descriptorIndex := 35, attributes := #[] }, { accessFlags := 10, nameIndex := 11, descriptorIndex := 12, attributes := #[] }] 49 2 #[] #[])
  fields := #[]
  methods := #[k1m0, k1m1, k1m2, k1m3]
  instanceTypes := #[]
  staticTypes := #[]
  resolved := Array.replicate 46 none
  statics := none }

def pool2 : Array CpInfo := pool [(1, .class_ 2), (0, u "java/io/Serializable"), (0, .class_ 4), (0, u "java/lang/Object")] 2

/-- java/io/Serializable -/
def k2 : Class := { plain "java/io/Serializable" (some 0) with
  accessFlags := 1537
  interfaces := #[]
  cf := some (fileOf pool2 1 #[] #[] 1537 3 #[] #[])
  fields := #[]
  methods := #[]
  instanceTypes := #[]
  staticTypes := #[]
  resolved := Array.replicate 7 none
  statics := none }

def pool3 : Array CpInfo := pool [(1, .class_ 2), (0, u "java/lang/Comparable"), (0, .class_ 4), (0, u "java/lang/Object")] 7

/-- java/lang/Comparable -/
def k3 : Class := { plain "java/lang/Comparable" (some 0) with
  accessFlags := 1537
  interfaces := #[]
  cf := some (fileOf pool3 1 #[] #[] 1537 3 #[] #[])
  fields := #[]
  methods := #[]
  instanceTypes := #[]
  staticTypes := #[]
  resolved := Array.replicate 12 none
  statics := none }

def pool4 : Array CpInfo := pool [(2, .class_ 4), (1, u "java/lang/CharSequence"), (42, .class_ 48), (0, u "java/lang/CharSequence$1CodePointIterator"), (10, .class_ 60), (0, u "java/lang/CharSequence$1CharIterator"), (5, .class_ 67), (0, u "java/lang/Object")] 63

/-- java/lang/CharSequence -/
def k4 : Class := { plain "java/lang/CharSequence" (some 0) with
  accessFlags := 1537
  interfaces := #[]
  cf := some (fileOf pool4 2 #[.nestMembers #[47, 59]] #[] 1537 66 #[] #[])
  fields := #[]
  methods := #[]
  instanceTypes := #[]
  staticTypes := #[]
  resolved := Array.replicate 131 none
  statics := none }

def pool5 : Array CpInfo := pool [(1, .class_ 2), (0, u "java/lang/constant/Constable"), (0, .class_ 4), (0, u "java/lang/Object")] 6

/-- java/lang/constant/Constable -/
def k5 : Class := { plain "java/lang/constant/Constable" (some 0) with
  accessFlags := 1537
  interfaces := #[]
  cf := some (fileOf pool5 1 #[] #[] 1537 3 #[] #[])
  fields := #[]
  methods := #[]
  instanceTypes := #[]
  staticTypes := #[]
  resolved := Array.replicate 11 none
  statics := none }

def pool6 : Array CpInfo := pool [(1, .class_ 2), (0, u "java/lang/constant/ConstantDesc"), (0, .class_ 4), (0, u "java/lang/Object")] 32

/-- java/lang/constant/ConstantDesc -/
def k6 : Class := { plain "java/lang/constant/ConstantDesc" (some 0) with
  accessFlags := 1537
  interfaces := #[]
  cf := some (fileOf pool6 1 #[] #[] 1537 3 #[] #[])
  fields := #[]
  methods := #[]
  instanceTypes := #[]
  staticTypes := #[]
  resolved := Array.replicate 37 none
  statics := none }

def pool7 : Array CpInfo := pool [(1, .methodref 2 3), (0, .class_ 4), (0, .nameAndType 5 6), (0, u "java/lang/Object"), (0, u "<init>"), (0, u "()V"), (0, .string 8), (0, u ""), (0, .fieldref 10 11), (0, .class_ 12), (0, .nameAndType 13 14), (0, u "java/lang/String"), (0, u "value"), (0, u "[B"), (0, .fieldref 10 16), (0, .nameAndType 17 18), (0, u "coder"), (0, u "B"), (2, u "hash"), (0, u "I"), (2, u "hashIsZero"), (0, u "Z"), (0, .methodref 10 28), (0, .nameAndType 5 29), (0, u "([CIILjava/lang/Void;)V"), (8, .fieldref 10 39), (0, .nameAndType 40 26), (0, u "COMPACT_STRINGS"), (1, .class_ 44), (1, u "java/lang/StringUTF16"), (0, u "compress"), (1, .methodref 42 48), (0, .nameAndType 49 50), (0, u "coderFromArrayLen"), (0, u "([BI)B"), (3, .methodref 55 56), (0, .class_ 57), (0, .nameAndType 58 59), (0, u "java/util/Arrays"), (0, u "copyOfRange"), (0, u "([BII)[B"), (47, .class_ 109), (1, u "java/lang/StringLatin1"), (32, u "()Z"), (34, .methodref 42 178), (0, .nameAndType 45 179), (0, u "([CII)[B"), (13, .class_ 195), (1, u "java/lang/System"), (16, .methodref 193 213), (0, .nameAndType 214 215), (0, u "arraycopy"), (0, u "(Ljava/lang/Object;ILjava/lang/Object;II)V"), (118, u "()I"), (0, .methodref 10 336), (0, .nameAndType 17 337), (0, u "()B"), (2, u "()[B"), (22, u "([BI)C"), (27, u "(II)V"), (35, u "(I)C"), (61, .methodref 10 490), (0, .nameAndType 5 491), (0, u "(Ljava/lang/AbstractStringBuilder;Ljava/lang/Void;)V"), (0, .methodref 10 493), (0, .nameAndType 494 142), (0, u "isLatin1"), (0, .methodref 107 496), (0, .nameAndType 497 363), (0, u "charAt"), (3, u "checkIndex"), (4, .nameAndType 507 334), (0, u "length"), (24, u "getBytes"), (16, .methodref 550 506), (0, .class_ 551), (0, u "java/lang/AbstractStringBuilder"), (0, .methodref 550 553), (0, .nameAndType 554 340), (0, u "getValue"), (20, .class_ 576), (0, u "java/lang/CharSequence"), (22, u "CASE_INSENSITIVE_ORDER"), (0, u "Ljava/util/Comparator;"), (220, u "([BIB)V"), (188, u "([C)V"), (36, .methodref 550 493), (5, .fieldref 1054 1055), (0, .class_ 1056), (0, .nameAndType 1057 1058), (0, u "jdk/internal/util/Preconditions"), (0, u "SIOOBE_FORMATTER"), (0, u "Ljava/util/function/BiFunction;"), (0, .methodref 1054 1060), (0, .nameAndType 501 1061), (0, u "(IILjava/util/function/BiFunction;)I"), (39, u "serialPersistentFields"), (0, u "[Ljava/io/ObjectStreamField;"), (0, .class_ 1104), (0, u "java/lang/String$CaseInsensitiveComparator"), (1, .class_ 1107), (0, u "java/io/Serializable"), (0, .class_ 1109), (0, u "java/lang/Comparable"), (0, .class_ 1111), (0, u "java/lang/constant/Constable"), (0, .class_ 1113), (0, u "java/lang/constant/ConstantDesc"), (2, u "serialVersionUID"), (0, u "J"), (3, u "REPL"), (0, u "C"), (2, u "LATIN1"), (1, u "UTF16"), (105, u "(Ljava/lang/StringBuilder;)V")] 217

def k7m0 : Method := { name := "<init>", desc := "()V", sig := { parameters := [], returnType := none }, accessFlags := 1, code := none }
def k7c1 : Code := { maxStack := 5, maxLocals := 2, code := jdk_42_method_3_code, exceptionTable := #[], attributes := #[] }
def k7m1 : Method := { name := "<init>", desc := "([C)V", sig := { parameters := [(.array .char)], returnType := none }, accessFlags := 1, code := some k7c1 }
def k7c2 : Code := { maxStack := 3, maxLocals := 2, code := jdk_42_method_53_code, exceptionTable := #[], attributes := #[] }
def k7m2 : Method := { name := "<init>", desc := "(Ljava/lang/StringBuilder;)V", sig := { parameters := [(.object "java/lang/StringBuilder")], returnType := none }, accessFlags := 1, code := some k7c2 }
def k7c3 : Code := { maxStack := 2, maxLocals := 1, code := jdk_42_method_54_code, exceptionTable := #[], attributes := #[] }
def k7m3 : Method := { name := "length", desc := "()I", sig := { parameters := [], returnType := some .int }, accessFlags := 1, code := some k7c3 }
def k7c4 : Code := { maxStack := 2, maxLocals := 2, code := jdk_42_method_56_code, exceptionTable := #[], attributes := #[] }
def k7m4 : Method := { name := "charAt", desc := "(I)C", sig := { parameters := [.int], returnType := some .char }, accessFlags := 1, code := some k7c4 }
def k7c5 : Code := { maxStack := 5, maxLocals := 4, code := jdk_42_method_147_code, exceptionTable := #[], attributes := #[] }
def k7m5 : Method := { name := "getBytes", desc := "([BIB)V", sig := { parameters := [(.array .byte), .int, .byte], returnType := none }, accessFlags := 0, code := some k7c5 }
def k7c6 : Code := { maxStack := 4, maxLocals := 6, code := jdk_42_method_149_code, exceptionTable := #[], attributes := #[] }
def k7m6 : Method := { name := "<init>", desc := "([CIILjava/lang/Void;)V", sig := { parameters := [(.array .char), .int, .int, (.object "java/lang/Void")], returnType := none }, accessFlags := 2, code := some k7c6 }
def k7c7 : Code := { maxStack := 5, maxLocals := 5, code := jdk_42_method_150_code, exceptionTable := #[], attributes := #[] }
def k7m7 : Method := { name := "<init>", desc := "(Ljava/lang/AbstractStringBuilder;Ljava/lang/Void;)V", sig := { parameters := [(.object "java/lang/AbstractStringBuilder"), (.object "java/lang/Void")], returnType := none }, accessFlags := 0, code := some k7c7 }
def k7c8 : Code := { maxStack := 1, maxLocals := 1, code := jdk_42_method_152_code, exceptionTable := #[], attributes := #[] }
def k7m8 : Method := { name := "coder", desc := "()B", sig := { parameters := [], returnType := some .byte }, accessFlags := 0, code := some k7c8 }
def k7c9 : Code := { maxStack := 1, maxLocals := 1, code := jdk_42_method_154_code, exceptionTable := #[], attributes := #[] }
def k7m9 : Method := { name := "isLatin1", desc := "()Z", sig := { parameters := [], returnType := some .boolean }, accessFlags := 0, code := some k7c9 }
def k7c10 : Code := { maxStack := 3, maxLocals := 2, code := jdk_42_method_155_code, exceptionTable := #[], attributes := #[] }
def k7m10 : Method := { name := "checkIndex", desc := "(II)V", sig := { parameters := [.int, .int], returnType := none }, accessFlags := 8, code := some k7c10 }
/-- java/lang/String -/
def k7 : Class := { plain "java/lang/String" (some 0) with
  accessFlags := 49
  interfaces := #[2, 3, 4, 5, 6]
  cf := some (fileOf pool7 10 #[.nestMembers #[1103]] #[{ accessFlags := 1, nameIndex := 5, descriptorIndex := 6, attributes := #[] }, { accessFlags := 1, nameIndex := 5, descriptorIndex := 1010, attributes := #[] }, { accessFlags := 1, nameIndex := 5, descriptorIndex := 1233, attributes := #[] }, { accessFlags := 1, nameIndex := 507, descriptorIndex := 334, attributes := #[] }, { accessFlags := 1, nameIndex := 497, descriptorIndex := 427, attributes := #[] }, { accessFlags := 0, nameIndex := 532, descriptorIndex := 821, attributes := #[] }, { accessFlags := 2, nameIndex := 5, descriptorIndex := 29, attributes := #[] }, { accessFlags := 0, nameIndex := 5, descriptorIndex := 491, attributes := #[] }, { accessFlags := 0, nameIndex := 17, descriptorIndex := 337, attributes := #[] }, { accessFlags := 0, nameIndex := 494, descriptorIndex := 142, attributes := #[] }, { accessFlags := 8, nameIndex := 501, descriptorIndex := 391, attributes := #[] }] 49 2 #[1106, 1108, 575, 1110, 1112] #[{ accessFlags := 18, nameIndex := 13, descriptorIndex := 14, attributes := #[] }, { accessFlags := 18, nameIndex := 17, descriptorIndex := 18, attributes := #[] }, { accessFlags := 2, nameIndex := 21, descriptorIndex := 22, attributes := #[] }, { accessFlags := 2, nameIndex := 25, descriptorIndex := 26, attributes := #[] }, { accessFlags := 26, nameIndex := 1116, descriptorIndex := 1117, attributes := #[] }, { accessFlags := 24, nameIndex := 40, descriptorIndex := 26, attributes := #[] }, { accessFlags := 26, nameIndex := 1101, descriptorIndex := 1102, attributes := #[] }, { accessFlags := 26, nameIndex := 1121, descriptorIndex := 1122, attributes := #[] }, { accessFlags := 25, nameIndex := 599, descriptorIndex := 600, attributes := #[] }, { accessFlags := 24, nameIndex := 1125, descriptorIndex := 18, attributes := #[] }, { accessFlags := 24, nameIndex := 1127, descriptorIndex := 18, attributes := #[] }])
  fields := #[{ name := "value", type := (.array .byte), accessFlags := 18, slot := 0, constantValue := 0 }, { name := "coder", type := .byte, accessFlags := 18, slot := 1, constantValue := 0 }, { name := "hash", type := .int, accessFlags := 2, slot := 2, constantValue := 0 }, { name := "hashIsZero", type := .boolean, accessFlags := 2, slot := 3, constantValue := 0 }, { name := "serialVersionUID", type := .long, accessFlags := 26, slot := 0, constantValue := 0 }, { name := "COMPACT_STRINGS", type := .boolean, accessFlags := 24, slot := 1, constantValue := 0 }, { name := "serialPersistentFields", type := (.array (.object "java/io/ObjectStreamField")), accessFlags := 26, slot := 2, constantValue := 0 }, { name := "REPL", type := .char, accessFlags := 26, slot := 3, constantValue := 0 }, { name := "CASE_INSENSITIVE_ORDER", type := (.object "java/util/Comparator"), accessFlags := 25, slot := 4, constantValue := 0 }, { name := "LATIN1", type := .byte, accessFlags := 24, slot := 5, constantValue := 0 }, { name := "UTF16", type := .byte, accessFlags := 24, slot := 6, constantValue := 0 }]
  methods := #[k7m0, k7m1, k7m2, k7m3, k7m4, k7m5, k7m6, k7m7, k7m8, k7m9, k7m10]
  instanceTypes := #[(.array .byte), .byte, .int, .boolean]
  staticTypes := #[.long, .boolean, (.array (.object "java/io/ObjectStreamField")), .char, (.object "java/util/Comparator"), .byte, .byte]
  resolved := Array.replicate 1451 none
  statics := some 0 }

def pool8 : Array CpInfo := pool [(6, .class_ 8), (1, u "java/lang/Object"), (0, u "<init>"), (0, u "()V"), (1, .class_ 14), (1, u "java/lang/StringUTF16"), (31, u "$assertionsDisabled"), (0, u "Z"), (13, u "HI_BYTE_SHIFT"), (0, u "I"), (2, u "LO_BYTE_SHIFT"), (49, .methodref 12 116), (0, .nameAndType 117 118), (0, u "compress"), (0, u "([CI[BII)I"), (3, u "([CII)[B"), (138, u "coderFromArrayLen"), (0, u "([BI)B"), (106, .class_ 371), (1, u "java/lang/StringUTF16$LinesSpliterator"), (58, u "MAX_LENGTH"), (196, .class_ 628), (0, u "java/lang/StringUTF16$CodePointsSpliterator"), (0, .class_ 630), (0, u "java/lang/StringUTF16$CharsSpliterator")] 4

def k8m0 : Method := { name := "<init>", desc := "()V", sig := { parameters := [], returnType := none }, accessFlags := 0, code := none }
def k8c1 : Code := { maxStack := 2, maxLocals := 2, code := jdk_52_method_15_code, exceptionTable := #[], attributes := #[] }
def k8m1 : Method := { name := "coderFromArrayLen", desc := "([BI)B", sig := { parameters := [(.array .byte), .int], returnType := some .byte }, accessFlags := 8, code := some k8c1 }
def k8c2 : Code := { maxStack := 5, maxLocals := 6, code := jdk_52_method_16_code, exceptionTable := #[], attributes := #[] }
def k8m2 : Method := { name := "compress", desc := "([CII)[B", sig := { parameters := [(.array .char), .int, .int], returnType := some (.array .byte) }, accessFlags := 9, code := some k8c2 }
def k8c3 : Code := { maxStack := 3, maxLocals := 7, code := jdk_52_method_21_code, exceptionTable := #[], attributes := #[] }
def k8m3 : Method := { name := "compress", desc := "([CI[BII)I", sig := { parameters := [(.array .char), .int, (.array .byte), .int, .int], returnType := some .int }, accessFlags := 9, code := some k8c3 }
/-- java/lang/StringUTF16 -/
def k8 : Class := { plain "java/lang/StringUTF16" (some 0) with
  accessFlags := 48
  interfaces := #[]
  cf := some (fileOf pool8 12 #[.nestMembers #[627, 629, 369]] #[{ accessFlags := 0, nameIndex := 9, descriptorIndex := 10, attributes := #[] }, { accessFlags := 8, nameIndex := 261, descriptorIndex := 262, attributes := #[] }, { accessFlags := 9, nameIndex := 117, descriptorIndex := 122, attributes := #[] }, { accessFlags := 9, nameIndex := 117, descriptorIndex := 118, attributes := #[] }] 48 6 #[] #[{ accessFlags := 26, nameIndex := 61, descriptorIndex := 62, attributes := #[] }, { accessFlags := 26, nameIndex := 65, descriptorIndex := 62, attributes := #[] }, { accessFlags := 24, nameIndex := 430, descriptorIndex := 62, attributes := #[] }, { accessFlags := 4120, nameIndex := 46, descriptorIndex := 47, attributes := #[] }])
  fields := #[{ name := "HI_BYTE_SHIFT", type := .int, accessFlags := 26, slot := 0, constantValue := 0 }, { name := "LO_BYTE_SHIFT", type := .int, accessFlags := 26, slot := 1, constantValue := 0 }, { name := "MAX_LENGTH", type := .int, accessFlags := 24, slot := 2, constantValue := 0 }, { name := "$assertionsDisabled", type := .boolean, accessFlags := 4120, slot := 3, constantValue := 0 }]
  methods := #[k8m0, k8m1, k8m2, k8m3]
  instanceTypes := #[]
  staticTypes := #[.int, .int, .int, .boolean]
  resolved := Array.replicate 635 none
  statics := none }

def pool9 : Array CpInfo := pool [(1, .methodref 2 3), (0, .class_ 4), (0, .nameAndType 5 6), (0, u "java/lang/Object"), (0, u "<init>"), (0, u "()V"), (0, .class_ 8), (0, u "java/lang/Record")] 13

def k9c0 : Code := { maxStack := 1, maxLocals := 1, code := jdk_30_method_1_code, exceptionTable := #[], attributes := #[] }
def k9m0 : Method := { name := "<init>", desc := "()V", sig := { parameters := [], returnType := none }, accessFlags := 4, code := some k9c0 }
/-- java/lang/Record -/
def k9 : Class := { plain "java/lang/Record" (some 0) with
  accessFlags := 1057
  interfaces := #[]
  cf := some (fileOf pool9 7 #[] #[{ accessFlags := 4, nameIndex := 5, descriptorIndex := 6, attributes := #[] }] 1057 2 #[] #[])
  fields := #[]
  methods := #[k9m0]
  instanceTypes := #[]
  staticTypes := #[]
  resolved := Array.replicate 22 none
  statics := none }

def pool10 : Array CpInfo := pool [(1, .methodref 2 3), (0, .class_ 4), (0, .nameAndType 5 6), (0, u "java/lang/Record"), (0, u "<init>"), (0, u "()V"), (0, .string 8), (0, u "name"), (0, .methodref 10 11), (0, .class_ 12), (0, .nameAndType 13 14), (0, u "java/util/Objects"), (0, u "requireNonNull"), (0, u "(Ljava/lang/Object;Ljava/lang/String;)Ljava/lang/Object;"), (0, .string 16), (0, u "location"), (0, .fieldref 18 19), (0, .class_ 20), (0, .nameAndType 8 21), (0, u "com/example/mailhelm/mailhelm/model/Source"), (0, u "Ljava/lang/String;"), (0, .fieldref 18 23), (0, .nameAndType 16 21), (0, .class_ 25), (0, u "java/lang/StringBuilder"), (0, .methodref 24 3), (0, .methodref 24 28), (0, .nameAndType 29 30), (0, u "append"), (0, u "(Ljava/lang/String;)Ljava/lang/StringBuilder;"), (0, .string 32), (0, u " "), (0, .methodref 24 34), (0, .nameAndType 35 36), (0, u "toString"), (0, u "()Ljava/lang/String;"), (8, u "(Ljava/lang/String;Ljava/lang/String;)V")] 26

def k10c0 : Code := { maxStack := 2, maxLocals := 3, code := prog_26_method_1_code, exceptionTable := #[], attributes := #[] }
def k10m0 : Method := { name := "<init>", desc := "(Ljava/lang/String;Ljava/lang/String;)V", sig := { parameters := [(.object "java/lang/String"), (.object "java/lang/String")], returnType := none }, accessFlags := 1, code := some k10c0 }
def k10c1 : Code := { maxStack := 2, maxLocals := 1, code := prog_26_method_2_code, exceptionTable := #[], attributes := #[] }
def k10m1 : Method := { name := "toString", desc := "()Ljava/lang/String;", sig := { parameters := [], returnType := some (.object "java/lang/String") }, accessFlags := 1, code := some k10c1 }
/-- com/example/mailhelm/mailhelm/model/Source -/
def k10 : Class := { plain "com/example/mailhelm/mailhelm/model/Source" (some 9) with
  accessFlags := 49
  interfaces := #[]
  cf := some (fileOf pool10 18 #[] #[{ accessFlags := 1, nameIndex := 5, descriptorIndex := 45, attributes := #[] }, { accessFlags := 1, nameIndex := 35, descriptorIndex := 36, attributes := #[] }] 49 2 #[] #[{ accessFlags := 18, nameIndex := 8, descriptorIndex := 21, attributes := #[] }, { accessFlags := 18, nameIndex := 16, descriptorIndex := 21, attributes := #[] }])
  fields := #[{ name := "name", type := (.object "java/lang/String"), accessFlags := 18, slot := 0, constantValue := 0 }, { name := "location", type := (.object "java/lang/String"), accessFlags := 18, slot := 1, constantValue := 0 }]
  methods := #[k10m0, k10m1]
  instanceTypes := #[(.object "java/lang/String"), (.object "java/lang/String")]
  staticTypes := #[]
  resolved := Array.replicate 72 none
  statics := none }

def pool11 : Array CpInfo := pool [(2, .class_ 4), (1, u "java/lang/Object"), (0, u "<init>"), (0, u "()V"), (35, .class_ 44), (1, u "java/util/Objects"), (0, u "requireNonNull"), (48, u "(Ljava/lang/Object;Ljava/lang/String;)Ljava/lang/Object;")] 89

def k11m0 : Method := { name := "<init>", desc := "()V", sig := { parameters := [], returnType := none }, accessFlags := 2, code := none }
def k11c1 : Code := { maxStack := 3, maxLocals := 2, code := jdk_31_method_11_code, exceptionTable := #[], attributes := #[] }
def k11m1 : Method := { name := "requireNonNull", desc := "(Ljava/lang/Object;Ljava/lang/String;)Ljava/lang/Object;", sig := { parameters := [(.object "java/lang/Object"), (.object "java/lang/String")], returnType := some (.object "java/lang/Object") }, accessFlags := 9, code := some k11c1 }
/-- java/util/Objects -/
def k11 : Class := { plain "java/util/Objects" (some 0) with
  accessFlags := 49
  interfaces := #[]
  cf := some (fileOf pool11 42 #[] #[{ accessFlags := 2, nameIndex := 5, descriptorIndex := 6, attributes := #[] }, { accessFlags := 9, nameIndex := 45, descriptorIndex := 94, attributes := #[] }] 49 2 #[] #[])
  fields := #[]
  methods := #[k11m0, k11m1]
  instanceTypes := #[]
  staticTypes := #[]
  resolved := Array.replicate 184 none
  statics := none }

def pool12 : Array CpInfo := pool [(1, .class_ 2), (0, u "java/lang/Appendable"), (0, .class_ 4), (0, u "java/lang/Object")] 9

/-- java/lang/Appendable -/
def k12 : Class := { plain "java/lang/Appendable" (some 0) with
  accessFlags := 1537
  interfaces := #[]
  cf := some (fileOf pool12 1 #[] #[] 1537 3 #[] #[])
  fields := #[]
  methods := #[]
  instanceTypes := #[]
  staticTypes := #[]
  resolved := Array.replicate 14 none
  statics := none }

def pool13 : Array CpInfo := pool [(1, .class_ 2), (0, u "java/lang/String"), (0, .methodref 4 5), (0, .class_ 6), (0, .nameAndType 7 8), (0, u "java/lang/Object"), (0, u "<init>"), (0, u "()V"), (1, .class_ 12), (1, u "java/lang/AbstractStringBuilder"), (0, u "EMPTYVALUE"), (0, u "[B"), (0, .fieldref 10 16), (0, .nameAndType 17 14), (0, u "value"), (0, .fieldref 1 19), (0, .nameAndType 20 21), (0, u "COMPACT_STRINGS"), (0, u "Z"), (0, .fieldref 10 23), (0, .nameAndType 24 25), (0, u "coder"), (0, u "B"), (6, .methodref 1 33), (0, .nameAndType 34 35), (0, u "length"), (0, u "()I"), (4, .methodref 1 41), (0, .nameAndType 24 42), (0, u "()B"), (2, u "append"), (0, u "(Ljava/lang/String;)Ljava/lang/AbstractStringBuilder;"), (1, .class_ 49), (0, u "java/lang/CharSequence"), (19, u "(Ljava/lang/String;)V"), (5, u "maybeLatin1"), (3, .fieldref 10 80), (0, .nameAndType 81 82), (0, u "count"), (0, u "I"), (2, u "isLatin1"), (0, u "()Z"), (13, .methodref 10 101), (0, .nameAndType 102 103), (0, u "ensureCapacityInternal"), (0, u "(I)V"), (104, .methodref 10 209), (0, .nameAndType 210 211), (0, u "putStringAt"), (0, u "(ILjava/lang/String;)V"), (5, u "inflateIfNeededFor"), (2, .nameAndType 221 222), (0, u "getBytes"), (0, u "([BIB)V"), (174, .methodref 10 398), (0, .nameAndType 217 69), (0, .methodref 1 220), (3, u "()[B"), (40, .class_ 445), (0, u "java/lang/Appendable"), (106, u "getValue")] 56

def k13m0 : Method := { name := "<init>", desc := "()V", sig := { parameters := [], returnType := none }, accessFlags := 0, code := none }
def k13c1 : Code := { maxStack := 2, maxLocals := 2, code := jdk_68_method_2_code, exceptionTable := #[], attributes := #[] }
def k13m1 : Method := { name := "<init>", desc := "(I)V", sig := { parameters := [.int], returnType := none }, accessFlags := 0, code := some k13c1 }
def k13c2 : Code := { maxStack := 1, maxLocals := 1, code := jdk_68_method_6_code, exceptionTable := #[], attributes := #[] }
def k13m2 : Method := { name := "length", desc := "()I", sig := { parameters := [], returnType := some .int }, accessFlags := 1, code := some k13c2 }
def k13c3 : Code := { maxStack := 4, maxLocals := 3, code := jdk_68_method_9_code, exceptionTable := #[], attributes := #[] }
def k13m3 : Method := { name := "ensureCapacityInternal", desc := "(I)V", sig := { parameters := [.int], returnType := none }, accessFlags := 2, code := some k13c3 }
def k13c4 : Code := { maxStack := 3, maxLocals := 3, code := jdk_68_method_22_code, exceptionTable := #[], attributes := #[] }
def k13m4 : Method := { name := "append", desc := "(Ljava/lang/String;)Ljava/lang/AbstractStringBuilder;", sig := { parameters := [(.object "java/lang/String")], returnType := some (.object "java/lang/AbstractStringBuilder") }, accessFlags := 1, code := some k13c4 }
def k13c5 : Code := { maxStack := 1, maxLocals := 1, code := jdk_68_method_64_code, exceptionTable := #[], attributes := #[] }
def k13m5 : Method := { name := "getValue", desc := "()[B", sig := { parameters := [], returnType := some (.array .byte) }, accessFlags := 16, code := some k13c5 }
def k13c6 : Code := { maxStack := 1, maxLocals := 1, code := jdk_68_method_68_code, exceptionTable := #[], attributes := #[] }
def k13m6 : Method := { name := "isLatin1", desc := "()Z", sig := { parameters := [], returnType := some .boolean }, accessFlags := 16, code := some k13c6 }
def k13c7 : Code := { maxStack := 2, maxLocals := 2, code := jdk_68_method_71_code, exceptionTable := #[], attributes := #[] }
def k13m7 : Method := { name := "inflateIfNeededFor", desc := "(Ljava/lang/String;)V", sig := { parameters := [(.object "java/lang/String")], returnType := none }, accessFlags := 2, code := some k13c7 }
def k13c8 : Code := { maxStack := 4, maxLocals := 3, code := jdk_68_method_73_code, exceptionTable := #[], attributes := #[] }
def k13m8 : Method := { name := "putStringAt", desc := "(ILjava/lang/String;)V", sig := { parameters := [.int, (.object "java/lang/String")], returnType := none }, accessFlags := 2, code := some k13c8 }
/-- java/lang/AbstractStringBuilder -/
def k13 : Class := { plain "java/lang/AbstractStringBuilder" (some 0) with
  accessFlags := 1056
  interfaces := #[12, 4]
  cf := some (fileOf pool13 10 #[] #[{ accessFlags := 0, nameIndex := 7, descriptorIndex := 8, attributes := #[] }, { accessFlags := 0, nameIndex := 7, descriptorIndex := 103, attributes := #[] }, { accessFlags := 1, nameIndex := 34, descriptorIndex := 35, attributes := #[] }, { accessFlags := 2, nameIndex := 102, descriptorIndex := 103, attributes := #[] }, { accessFlags := 1, nameIndex := 45, descriptorIndex := 46, attributes := #[] }, { accessFlags := 16, nameIndex := 552, descriptorIndex := 403, attributes := #[] }, { accessFlags := 16, nameIndex := 85, descriptorIndex := 86, attributes := #[] }, { accessFlags := 2, nameIndex := 217, descriptorIndex := 69, attributes := #[] }, { accessFlags := 2, nameIndex := 210, descriptorIndex := 211, attributes := #[] }] 1056 4 #[444, 48] #[{ accessFlags := 0, nameIndex := 17, descriptorIndex := 14, attributes := #[] }, { accessFlags := 0, nameIndex := 24, descriptorIndex := 25, attributes := #[] }, { accessFlags := 0, nameIndex := 75, descriptorIndex := 21, attributes := #[] }, { accessFlags := 0, nameIndex := 81, descriptorIndex := 82, attributes := #[] }, { accessFlags := 26, nameIndex := 13, descriptorIndex := 14, attributes := #[] }])
  fields := #[{ name := "value", type := (.array .byte), accessFlags := 0, slot := 0, constantValue := 0 }, { name := "coder", type := .byte, accessFlags := 0, slot := 1, constantValue := 0 }, { name := "maybeLatin1", type := .boolean, accessFlags := 0, slot := 2, constantValue := 0 }, { name := "count", type := .int, accessFlags := 0, slot := 3, constantValue := 0 }, { name := "EMPTYVALUE", type := (.array .byte), accessFlags := 26, slot := 0, constantValue := 0 }]
  methods := #[k13m0, k13m1, k13m2, k13m3, k13m4, k13m5, k13m6, k13m7, k13m8]
  instanceTypes := #[(.array .byte), .byte, .boolean, .int]
  staticTypes := #[(.array .byte)]
  resolved := Array.replicate 609 none
  statics := none }

def pool14 : Array CpInfo := pool [(1, .methodref 2 3), (0, .class_ 4), (0, .nameAndType 5 6), (0, u "java/lang/AbstractStringBuilder"), (0, u "<init>"), (0, u "(I)V"), (11, .class_ 20), (1, u "java/lang/String"), (3, .class_ 26), (1, u "java/lang/StringBuilder"), (0, u "append"), (0, u "(Ljava/lang/String;)Ljava/lang/StringBuilder;"), (0, .methodref 2 30), (0, .nameAndType 27 31), (0, u "(Ljava/lang/String;)Ljava/lang/AbstractStringBuilder;"), (105, .methodref 18 138), (0, .nameAndType 5 139), (0, u "(Ljava/lang/StringBuilder;)V"), (5, u "()V"), (10, u "()I"), (186, .methodref 2 344), (0, .nameAndType 345 156), (0, u "length"), (3, .class_ 350), (0, u "java/lang/Appendable"), (0, .class_ 352), (0, u "java/io/Serializable"), (0, .class_ 354), (0, u "java/lang/Comparable"), (0, .class_ 356), (0, u "java/lang/CharSequence"), (0, u "serialVersionUID"), (0, u "J"), (40, u "toString"), (0, u "()Ljava/lang/String;")] 21

def k14c0 : Code := { maxStack := 2, maxLocals := 1, code := jdk_67_method_1_code, exceptionTable := #[], attributes := #[] }
def k14m0 : Method := { name := "<init>", desc := "()V", sig := { parameters := [], returnType := none }, accessFlags := 1, code := some k14c0 }
def k14c1 : Code := { maxStack := 2, maxLocals := 2, code := jdk_67_method_7_code, exceptionTable := #[], attributes := #[] }
def k14m1 : Method := { name := "append", desc := "(Ljava/lang/String;)Ljava/lang/StringBuilder;", sig := { parameters := [(.object "java/lang/String")], returnType := some (.object "java/lang/StringBuilder") }, accessFlags := 1, code := some k14c1 }
def k14c2 : Code := { maxStack := 3, maxLocals := 1, code := jdk_67_method_42_code, exceptionTable := #[], attributes := #[] }
def k14m2 : Method := { name := "toString", desc := "()Ljava/lang/String;", sig := { parameters := [], returnType := some (.object "java/lang/String") }, accessFlags := 1, code := some k14c2 }
def k14c3 : Code := { maxStack := 1, maxLocals := 1, code := jdk_67_method_93_code, exceptionTable := #[], attributes := #[] }
def k14m3 : Method := { name := "length", desc := "()I", sig := { parameters := [], returnType := some .int }, accessFlags := 4161, code := some k14c3 }
/-- java/lang/StringBuilder -/
def k14 : Class := { plain "java/lang/StringBuilder" (some 13) with
  accessFlags := 49
  interfaces := #[12, 2, 3, 4]
  cf := some (fileOf pool14 24 #[] #[{ accessFlags := 1, nameIndex := 5, descriptorIndex := 145, attributes := #[] }, { accessFlags := 1, nameIndex := 27, descriptorIndex := 28, attributes := #[] }, { accessFlags := 1, nameIndex := 399, descriptorIndex := 400, attributes := #[] }, { accessFlags := 4161, nameIndex := 345, descriptorIndex := 156, attributes := #[] }] 49 2 #[349, 351, 353, 355] #[{ accessFlags := 24, nameIndex := 357, descriptorIndex := 358, attributes := #[] }])
  fields := #[{ name := "serialVersionUID", type := .long, accessFlags := 24, slot := 0, constantValue := 0 }]
  methods := #[k14m0, k14m1, k14m2, k14m3]
  instanceTypes := #[(.array .byte), .byte, .boolean, .int]
  staticTypes := #[.long]
  resolved := Array.replicate 422 none
  statics := none }

def pool15 : Array CpInfo := pool [(2, .class_ 4), (1, u "java/lang/Object"), (0, u "<init>"), (0, u "()V"), (1, .class_ 10), (1, u "java/lang/System"), (0, u "allowSecurityManager"), (0, u "I"), (16, u "cons"), (0, u "Ljava/io/Console;"), (77, .class_ 110), (1, u "java/lang/System$CallersHolder"), (43, u "initialErrStream"), (0, u "Ljava/io/PrintStream;"), (19, u "security"), (0, u "Ljava/lang/SecurityManager;"), (31, .class_ 209), (0, u "java/lang/System$1"), (7, u "props"), (0, u "Ljava/util/Properties;"), (2, u "lineSeparator"), (0, u "Ljava/lang/String;"), (96, .class_ 321), (1, u "java/lang/System$LoggerFinder"), (5, .class_ 328), (0, u "java/lang/System$Logger"), (67, u "err"), (2, u "out"), (91, u "notSupportedJnuEncoding"), (15, u "in"), (17, u "initialIn"), (0, u "Ljava/io/InputStream;"), (35, u "bootLayer"), (0, u "Ljava/lang/ModuleLayer;"), (99, .class_ 664), (0, u "java/lang/System$2"), (9, u "NEVER"), (2, u "MAYBE"), (49, u "arraycopy"), (0, u "(Ljava/lang/Object;ILjava/lang/Object;II)V"), (72, .class_ 802), (0, u "java/lang/System$Logger$Level")] 31

def k15m0 : Method := { name := "<init>", desc := "()V", sig := { parameters := [], returnType := none }, accessFlags := 2, code := none }
def k15m1 : Method := { name := "arraycopy", desc := "(Ljava/lang/Object;ILjava/lang/Object;II)V", sig := { parameters := [(.object "java/lang/Object"), .int, (.object "java/lang/Object"), .int, .int], returnType := none }, accessFlags := 265, code := none }
/-- java/lang/System -/
def k15 : Class := { plain "java/lang/System" (some 0) with
  accessFlags := 49
  interfaces := #[]
  cf := some (fileOf pool15 8 #[.nestMembers #[319, 327, 801, 108, 663, 208]] #[{ accessFlags := 2, nameIndex := 5, descriptorIndex := 6, attributes := #[] }, { accessFlags := 265, nameIndex := 727, descriptorIndex := 728, attributes := #[] }] 49 2 #[] #[{ accessFlags := 25, nameIndex := 507, descriptorIndex := 526, attributes := #[] }, { accessFlags := 25, nameIndex := 399, descriptorIndex := 155, attributes := #[] }, { accessFlags := 25, nameIndex := 396, descriptorIndex := 155, attributes := #[] }, { accessFlags := 10, nameIndex := 525, descriptorIndex := 526, attributes := #[] }, { accessFlags := 26, nameIndex := 674, descriptorIndex := 12, attributes := #[] }, { accessFlags := 26, nameIndex := 677, descriptorIndex := 12, attributes := #[] }, { accessFlags := 10, nameIndex := 11, descriptorIndex := 12, attributes := #[] }, { accessFlags := 74, nameIndex := 175, descriptorIndex := 176, attributes := #[] }, { accessFlags := 10, nameIndex := 491, descriptorIndex := 222, attributes := #[] }, { accessFlags := 74, nameIndex := 29, descriptorIndex := 30, attributes := #[] }, { accessFlags := 74, nameIndex := 154, descriptorIndex := 155, attributes := #[] }, { accessFlags := 10, nameIndex := 217, descriptorIndex := 218, attributes := #[] }, { accessFlags := 10, nameIndex := 221, descriptorIndex := 222, attributes := #[] }, { accessFlags := 8, nameIndex := 562, descriptorIndex := 563, attributes := #[] }])
  fields := #[{ name := "in", type := (.object "java/io/InputStream"), accessFlags := 25, slot := 0, constantValue := 0 }, { name := "out", type := (.object "java/io/PrintStream"), accessFlags := 25, slot := 1, constantValue := 0 }, { name := "err", type := (.object "java/io/PrintStream"), accessFlags := 25, slot := 2, constantValue := 0 }, { name := "initialIn", type := (.object "java/io/InputStream"), accessFlags := 10, slot := 3, constantValue := 0 }, { name := "NEVER", type := .int, accessFlags := 26, slot := 4, constantValue := 0 }, { name := "MAYBE", type := .int, accessFlags := 26, slot := 5, constantValue := 0 }, { name := "allowSecurityManager", type := .int, accessFlags := 10, slot := 6, constantValue := 0 }, { name := "security", type := (.object "java/lang/SecurityManager"), accessFlags := 74, slot := 7, constantValue := 0 }, { name := "notSupportedJnuEncoding", type := (.object "java/lang/String"), accessFlags := 10, slot := 8, constantValue := 0 }, { name := "cons", type := (.object "java/io/Console"), accessFlags := 74, slot := 9, constantValue := 0 }, { name := "initialErrStream", type := (.object "java/io/PrintStream"), accessFlags := 74, slot := 10, constantValue := 0 }, { name := "props", type := (.object "java/util/Properties"), accessFlags := 10, slot := 11, constantValue := 0 }, { name := "lineSeparator", type := (.object "java/lang/String"), accessFlags := 10, slot := 12, constantValue := 0 }, { name := "bootLayer", type := (.object "java/lang/ModuleLayer"), accessFlags := 8, slot := 13, constantValue := 0 }]
  methods := #[k15m0, k15m1]
  instanceTypes := #[]
  staticTypes := #[(.object "java/io/InputStream"), (.object "java/io/PrintStream"), (.object "java/io/PrintStream"), (.object "java/io/InputStream"), .int, .int, .int, (.object "java/lang/SecurityManager"), (.object "java/lang/String"), (.object "java/io/Console"), (.object "java/io/PrintStream"), (.object "java/util/Properties"), (.object "java/lang/String"), (.object "java/lang/ModuleLayer")]
  resolved := Array.replicate 834 none
  statics := none }

def pool16 : Array CpInfo := pool [(2, .class_ 4), (1, u "java/lang/Object"), (0, u "<init>"), (0, u "()V"), (7, .class_ 16), (1, u "java/util/Arrays"), (57, .class_ 76), (1, u "java/util/Arrays$NaturalOrder"), (36, .class_ 115), (1, u "java/util/Arrays$LegacyMergeSort"), (1, u "Z"), (21, u "copyOfRange"), (10, .methodref 151 152), (0, .class_ 153), (0, .nameAndType 154 155), (0, u "java/lang/System"), (0, u "arraycopy"), (0, u "(Ljava/lang/Object;ILjava/lang/Object;II)V"), (148, .methodref 305 306), (0, .class_ 307), (0, .nameAndType 308 309), (0, u "java/lang/Math"), (0, u "min"), (0, u "(II)I"), (29, .methodref 14 340), (0, .nameAndType 341 342), (0, u "copyOfRangeByte"), (0, u "([BII)[B"), (0, .methodref 14 344), (0, .nameAndType 345 346), (0, u "checkLength"), (0, u "(II)V"), (28, .class_ 376), (0, u "java/util/Arrays$ArrayList"), (68, u "$assertionsDisabled"), (269, u "MIN_ARRAY_SORT_GRAN"), (0, u "I"), (2, u "INSERTIONSORT_THRESHOLD"), (255, .class_ 976), (0, u "java/util/Arrays$ArrayItr")] 52

def k16m0 : Method := { name := "<init>", desc := "()V", sig := { parameters := [], returnType := none }, accessFlags := 2, code := none }
def k16c1 : Code := { maxStack := 4, maxLocals := 2, code := jdk_65_method_131_code, exceptionTable := #[], attributes := #[] }
def k16m1 : Method := { name := "checkLength", desc := "(II)V", sig := { parameters := [.int, .int], returnType := none }, accessFlags := 10, code := some k16c1 }
def k16c2 : Code := { maxStack := 3, maxLocals := 3, code := jdk_65_method_132_code, exceptionTable := #[], attributes := #[] }
def k16m2 : Method := { name := "copyOfRange", desc := "([BII)[B", sig := { parameters := [(.array .byte), .int, .int], returnType := some (.array .byte) }, accessFlags := 9, code := some k16c2 }
def k16c3 : Code := { maxStack := 6, maxLocals := 5, code := jdk_65_method_133_code, exceptionTable := #[], attributes := #[] }
def k16m3 : Method := { name := "copyOfRangeByte", desc := "([BII)[B", sig := { parameters := [(.array .byte), .int, .int], returnType := some (.array .byte) }, accessFlags := 10, code := some k16c3 }
/-- java/util/Arrays -/
def k16 : Class := { plain "java/util/Arrays" (some 0) with
  accessFlags := 49
  interfaces := #[]
  cf := some (fileOf pool16 14 #[.nestMembers #[975, 375, 113, 74]] #[{ accessFlags := 2, nameIndex := 5, descriptorIndex := 6, attributes := #[] }, { accessFlags := 10, nameIndex := 345, descriptorIndex := 346, attributes := #[] }, { accessFlags := 9, nameIndex := 139, descriptorIndex := 342, attributes := #[] }, { accessFlags := 10, nameIndex := 341, descriptorIndex := 342, attributes := #[] }] 49 2 #[] #[{ accessFlags := 26, nameIndex := 715, descriptorIndex := 716, attributes := #[] }, { accessFlags := 26, nameIndex := 719, descriptorIndex := 716, attributes := #[] }, { accessFlags := 4120, nameIndex := 445, descriptorIndex := 117, attributes := #[] }])
  fields := #[{ name := "MIN_ARRAY_SORT_GRAN", type := .int, accessFlags := 26, slot := 0, constantValue := 0 }, { name := "INSERTIONSORT_THRESHOLD", type := .int, accessFlags := 26, slot := 1, constantValue := 0 }, { name := "$assertionsDisabled", type := .boolean, accessFlags := 4120, slot := 2, constantValue := 0 }]
  methods := #[k16m0, k16m1, k16m2, k16m3]
  instanceTypes := #[]
  staticTypes := #[.int, .int, .boolean]
  resolved := Array.replicate 1029 none
  statics := none }

def pool17 : Array CpInfo := pool [(1, .class_ 2), (0, u "java/lang/Math"), (1, .class_ 6), (1, u "java/lang/Object"), (0, u "<init>"), (0, u "()V"), (89, .class_ 100), (1, u "java/lang/Math$RandomNumberGeneratorHolder"), (71, u "negativeZeroFloatBits"), (0, u "J"), (2, u "negativeZeroDoubleBits"), (24, u "min"), (43, u "$assertionsDisabled"), (0, u "Z"), (88, u "(II)I"), (2, u "twoToTheDoubleScaleDown"), (0, u "D"), (4, u "twoToTheDoubleScaleUp"), (9, u "E"), (3, u "PI"), (2, u "TAU"), (2, u "DEGREES_TO_RADIANS"), (0, u "RADIANS_TO_DEGREES")] 94

def k17m0 : Method := { name := "<init>", desc := "()V", sig := { parameters := [], returnType := none }, accessFlags := 2, code := none }
def k17c1 : Code := { maxStack := 2, maxLocals := 2, code := jdk_29_method_69_code, exceptionTable := #[], attributes := #[] }
def k17m1 : Method := { name := "min", desc := "(II)I", sig := { parameters := [.int, .int], returnType := some .int }, accessFlags := 9, code := some k17c1 }
/-- java/lang/Math -/
def k17 : Class := { plain "java/lang/Math" (some 0) with
  accessFlags := 49
  interfaces := #[]
  cf := some (fileOf pool17 1 #[.nestMembers #[98]] #[{ accessFlags := 2, nameIndex := 7, descriptorIndex := 8, attributes := #[] }, { accessFlags := 9, nameIndex := 201, descriptorIndex := 335, attributes := #[] }] 49 4 #[] #[{ accessFlags := 25, nameIndex := 354, descriptorIndex := 339, attributes := #[] }, { accessFlags := 25, nameIndex := 358, descriptorIndex := 339, attributes := #[] }, { accessFlags := 25, nameIndex := 361, descriptorIndex := 339, attributes := #[] }, { accessFlags := 26, nameIndex := 364, descriptorIndex := 339, attributes := #[] }, { accessFlags := 26, nameIndex := 365, descriptorIndex := 339, attributes := #[] }, { accessFlags := 26, nameIndex := 172, descriptorIndex := 173, attributes := #[] }, { accessFlags := 26, nameIndex := 176, descriptorIndex := 173, attributes := #[] }, { accessFlags := 8, nameIndex := 344, descriptorIndex := 339, attributes := #[] }, { accessFlags := 8, nameIndex := 338, descriptorIndex := 339, attributes := #[] }, { accessFlags := 4120, nameIndex := 245, descriptorIndex := 246, attributes := #[] }])
  fields := #[{ name := "E", type := .double, accessFlags := 25, slot := 0, constantValue := 0 }, { name := "PI", type := .double, accessFlags := 25, slot := 1, constantValue := 0 }, { name := "TAU", type := .double, accessFlags := 25, slot := 2, constantValue := 0 }, { name := "DEGREES_TO_RADIANS", type := .double, accessFlags := 26, slot := 3, constantValue := 0 }, { name := "RADIANS_TO_DEGREES", type := .double, accessFlags := 26, slot := 4, constantValue := 0 }, { name := "negativeZeroFloatBits", type := .long, accessFlags := 26, slot := 5, constantValue := 0 }, { name := "negativeZeroDoubleBits", type := .long, accessFlags := 26, slot := 6, constantValue := 0 }, { name := "twoToTheDoubleScaleUp", type := .double, accessFlags := 8, slot := 7, constantValue := 0 }, { name := "twoToTheDoubleScaleDown", type := .double, accessFlags := 8, slot := 8, constantValue := 0 }, { name := "$assertionsDisabled", type := .boolean, accessFlags := 4120, slot := 9, constantValue := 0 }]
  methods := #[k17m0, k17m1]
  instanceTypes := #[]
  staticTypes := #[.double, .double, .double, .double, .double, .long, .long, .double, .double, .boolean]
  resolved := Array.replicate 460 none
  statics := none }

def pool18 : Array CpInfo := pool [(1, .class_ 2), (0, u "java/lang/String"), (1, .class_ 6), (1, u "java/lang/Object"), (0, u "<init>"), (0, u "()V"), (0, .methodref 1 10), (0, .nameAndType 11 12), (0, u "checkIndex"), (0, u "(II)V"), (1, .class_ 16), (1, u "java/lang/StringLatin1"), (36, u "([BI)C"), (67, u "$assertionsDisabled"), (0, u "Z"), (98, .class_ 223), (1, u "java/lang/StringLatin1$LinesSpliterator"), (28, u "charAt"), (137, .class_ 391), (0, u "java/lang/StringLatin1$CharsSpliterator")] 3

def k18m0 : Method := { name := "<init>", desc := "()V", sig := { parameters := [], returnType := none }, accessFlags := 0, code := none }
def k18c1 : Code := { maxStack := 2, maxLocals := 2, code := jdk_43_method_2_code, exceptionTable := #[], attributes := #[] }
def k18m1 : Method := { name := "charAt", desc := "([BI)C", sig := { parameters := [(.array .byte), .int], returnType := some .char }, accessFlags := 9, code := some k18c1 }
/-- java/lang/StringLatin1 -/
def k18 : Class := { plain "java/lang/StringLatin1" (some 0) with
  accessFlags := 48
  interfaces := #[]
  cf := some (fileOf pool18 14 #[.nestMembers #[390, 221]] #[{ accessFlags := 0, nameIndex := 7, descriptorIndex := 8, attributes := #[] }, { accessFlags := 9, nameIndex := 252, descriptorIndex := 53, attributes := #[] }] 48 4 #[] #[{ accessFlags := 4120, nameIndex := 121, descriptorIndex := 122, attributes := #[] }])
  fields := #[{ name := "$assertionsDisabled", type := .boolean, accessFlags := 4120, slot := 0, constantValue := 0 }]
  methods := #[k18m0, k18m1]
  instanceTypes := #[]
  staticTypes := #[.boolean]
  resolved := Array.replicate 395 none
  statics := none }

def pool19 : Array CpInfo := pool [(2, .class_ 4), (1, u "java/lang/Object"), (0, u "<init>"), (0, u "()V"), (17, .class_ 26), (1, u "jdk/internal/util/Preconditions"), (6, u "checkIndex"), (21, .class_ 56), (0, u "jdk/internal/util/Preconditions$4"), (57, .class_ 115), (0, u "jdk/internal/util/Preconditions$1"), (7, u "SIOOBE_FORMATTER"), (0, u "Ljava/util/function/BiFunction;"), (0, .class_ 126), (0, u "jdk/internal/util/Preconditions$2"), (3, u "AIOOBE_FORMATTER"), (0, .class_ 132), (0, u "jdk/internal/util/Preconditions$3"), (3, u "IOOBE_FORMATTER"), (41, u "(IILjava/util/function/BiFunction;)I")] 15

def k19m0 : Method := { name := "<init>", desc := "()V", sig := { parameters := [], returnType := none }, accessFlags := 1, code := none }
def k19c1 : Code := { maxStack := 3, maxLocals := 3, code := jdk_41_method_11_code, exceptionTable := #[], attributes := #[] }
def k19m1 : Method := { name := "checkIndex", desc := "(IILjava/util/function/BiFunction;)I", sig := { parameters := [.int, .int, (.object "java/util/function/BiFunction")], returnType := some .int }, accessFlags := 9, code := some k19c1 }
/-- jdk/internal/util/Preconditions -/
def k19 : Class := { plain "jdk/internal/util/Preconditions" (some 0) with
  accessFlags := 33
  interfaces := #[]
  cf := some (fileOf pool19 24 #[.nestMembers #[55, 131, 125, 114]] #[{ accessFlags := 1, nameIndex := 5, descriptorIndex := 6, attributes := #[] }, { accessFlags := 9, nameIndex := 33, descriptorIndex := 178, attributes := #[] }] 33 2 #[] #[{ accessFlags := 25, nameIndex := 123, descriptorIndex := 124, attributes := #[] }, { accessFlags := 25, nameIndex := 130, descriptorIndex := 124, attributes := #[] }, { accessFlags := 25, nameIndex := 136, descriptorIndex := 124, attributes := #[] }])
  fields := #[{ name := "SIOOBE_FORMATTER", type := (.object "java/util/function/BiFunction"), accessFlags := 25, slot := 0, constantValue := 0 }, { name := "AIOOBE_FORMATTER", type := (.object "java/util/function/BiFunction"), accessFlags := 25, slot := 1, constantValue := 0 }, { name := "IOOBE_FORMATTER", type := (.object "java/util/function/BiFunction"), accessFlags := 25, slot := 2, constantValue := 0 }]
  methods := #[k19m0, k19m1]
  instanceTypes := #[]
  staticTypes := #[(.object "java/util/function/BiFunction"), (.object "java/util/function/BiFunction"), (.object "java/util/function/BiFunction")]
  resolved := Array.replicate 194 none
  statics := some 1 }

def pool20 : Array CpInfo := pool [(9, u "<init>"), (6, .class_ 18), (1, u "java/lang/Object"), (0, u "()V"), (1, .class_ 23), (1, u "jdk/internal/util/ArraysSupport"), (0, u "LOG2_ARRAY_LONG_INDEX_SCALE"), (0, u "I"), (2, u "U"), (0, u "Ljdk/internal/misc/Unsafe;"), (8, u "BIG_ENDIAN"), (0, u "Z"), (8, u "LOG2_BYTE_BIT_SIZE"), (4, u "LOG2_ARRAY_INT_INDEX_SCALE"), (54, u "JLA"), (0, u "Ljdk/internal/access/JavaLangAccess;"), (11, u "LOG2_ARRAY_BOOLEAN_INDEX_SCALE"), (9, u "LOG2_ARRAY_BYTE_INDEX_SCALE"), (5, u "LOG2_ARRAY_CHAR_INDEX_SCALE"), (5, u "LOG2_ARRAY_SHORT_INDEX_SCALE"), (18, u "LOG2_ARRAY_FLOAT_INDEX_SCALE"), (24, u "LOG2_ARRAY_DOUBLE_INDEX_SCALE"), (89, u "T_BOOLEAN"), (2, u "T_CHAR"), (1, u "T_FLOAT"), (1, u "T_DOUBLE"), (1, u "T_BYTE"), (1, u "T_SHORT"), (1, u "T_INT"), (1, u "T_LONG"), (1, u "SOFT_MAX_ARRAY_LENGTH")] 83

def k20m0 : Method := { name := "<init>", desc := "()V", sig := { parameters := [], returnType := none }, accessFlags := 2, code := none }
/-- jdk/internal/util/ArraysSupport -/
def k20 : Class := { plain "jdk/internal/util/ArraysSupport" (some 0) with
  accessFlags := 33
  interfaces := #[]
  cf := some (fileOf pool20 21 #[] #[{ accessFlags := 2, nameIndex := 9, descriptorIndex := 19, attributes := #[] }] 33 16 #[] #[{ accessFlags := 24, nameIndex := 28, descriptorIndex := 29, attributes := #[] }, { accessFlags := 26, nameIndex := 38, descriptorIndex := 39, attributes := #[] }, { accessFlags := 25, nameIndex := 121, descriptorIndex := 25, attributes := #[] }, { accessFlags := 25, nameIndex := 131, descriptorIndex := 25, attributes := #[] }, { accessFlags := 25, nameIndex := 137, descriptorIndex := 25, attributes := #[] }, { accessFlags := 25, nameIndex := 143, descriptorIndex := 25, attributes := #[] }, { accessFlags := 25, nameIndex := 53, descriptorIndex := 25, attributes := #[] }, { accessFlags := 25, nameIndex := 24, descriptorIndex := 25, attributes := #[] }, { accessFlags := 25, nameIndex := 162, descriptorIndex := 25, attributes := #[] }, { accessFlags := 25, nameIndex := 187, descriptorIndex := 25, attributes := #[] }, { accessFlags := 26, nameIndex := 48, descriptorIndex := 25, attributes := #[] }, { accessFlags := 25, nameIndex := 277, descriptorIndex := 25, attributes := #[] }, { accessFlags := 25, nameIndex := 280, descriptorIndex := 25, attributes := #[] }, { accessFlags := 25, nameIndex := 282, descriptorIndex := 25, attributes := #[] }, { accessFlags := 25, nameIndex := 284, descriptorIndex := 25, attributes := #[] }, { accessFlags := 25, nameIndex := 286, descriptorIndex := 25, attributes := #[] }, { accessFlags := 25, nameIndex := 288, descriptorIndex := 25, attributes := #[] }, { accessFlags := 25, nameIndex := 290, descriptorIndex := 25, attributes := #[] }, { accessFlags := 25, nameIndex := 292, descriptorIndex := 25, attributes := #[] }, { accessFlags := 26, nameIndex := 108, descriptorIndex := 109, attributes := #[] }, { accessFlags := 25, nameIndex := 294, descriptorIndex := 25, attributes := #[] }])
  fields := #[{ name := "U", type := (.object "jdk/internal/misc/Unsafe"), accessFlags := 24, slot := 0, constantValue := 0 }, { name := "BIG_ENDIAN", type := .boolean, accessFlags := 26, slot := 1, constantValue := 0 }, { name := "LOG2_ARRAY_BOOLEAN_INDEX_SCALE", type := .int, accessFlags := 25, slot := 2, constantValue := 0 }, { name := "LOG2_ARRAY_BYTE_INDEX_SCALE", type := .int, accessFlags := 25, slot := 3, constantValue := 0 }, { name := "LOG2_ARRAY_CHAR_INDEX_SCALE", type := .int, accessFlags := 25, slot := 4, constantValue := 0 }, { name := "LOG2_ARRAY_SHORT_INDEX_SCALE", type := .int, accessFlags := 25, slot := 5, constantValue := 0 }, { name := "LOG2_ARRAY_INT_INDEX_SCALE", type := .int, accessFlags := 25, slot := 6, constantValue := 0 }, { name := "LOG2_ARRAY_LONG_INDEX_SCALE", type := .int, accessFlags := 25, slot := 7, constantValue := 0 }, { name := "LOG2_ARRAY_FLOAT_INDEX_SCALE", type := .int, accessFlags := 25, slot := 8, constantValue := 0 }, { name := "LOG2_ARRAY_DOUBLE_INDEX_SCALE", type := .int, accessFlags := 25, slot := 9, constantValue := 0 }, { name := "LOG2_BYTE_BIT_SIZE", type := .int, accessFlags := 26, slot := 10, constantValue := 0 }, { name := "T_BOOLEAN", type := .int, accessFlags := 25, slot := 11, constantValue := 0 }, { name := "T_CHAR", type := .int, accessFlags := 25, slot := 12, constantValue := 0 }, { name := "T_FLOAT", type := .int, accessFlags := 25, slot := 13, constantValue := 0 }, { name := "T_DOUBLE", type := .int, accessFlags := 25, slot := 14, constantValue := 0 }, { name := "T_BYTE", type := .int, accessFlags := 25, slot := 15, constantValue := 0 }, { name := "T_SHORT", type := .int, accessFlags := 25, slot := 16, constantValue := 0 }, { name := "T_INT", type := .int, accessFlags := 25, slot := 17, constantValue := 0 }, { name := "T_LONG", type := .int, accessFlags := 25, slot := 18, constantValue := 0 }, { name := "JLA", type := (.object "jdk/internal/access/JavaLangAccess"), accessFlags := 26, slot := 19, constantValue := 0 }, { name := "SOFT_MAX_ARRAY_LENGTH", type := .int, accessFlags := 25, slot := 20, constantValue := 0 }]
  methods := #[k20m0]
  instanceTypes := #[]
  staticTypes := #[(.object "jdk/internal/misc/Unsafe"), .boolean, .int, .int, .int, .int, .int, .int, .int, .int, .int, .int, .int, .int, .int, .int, .int, .int, .int, (.object "jdk/internal/access/JavaLangAccess"), .int]
  resolved := Array.replicate 378 none
  statics := none }

def pool21 : Array CpInfo := pool [(1, u "java/lang/Cloneable"), (0, .class_ 1), (0, u "java/lang/Object"), (0, .class_ 3)] 3

/-- java/lang/Cloneable -/
def k21 : Class := { plain "java/lang/Cloneable" (some 0) with
  accessFlags := 1537
  interfaces := #[]
  cf := some (fileOf pool21 2 #[] #[] 1537 4 #[] #[])
  fields := #[]
  methods := #[]
  instanceTypes := #[]
  staticTypes := #[]
  resolved := Array.replicate 8 none
  statics := none }

/-- the primitive byte -/
def k22 : Class := { plain "byte" none with kind := .primitive 'B', accessFlags := 0x411 }
/-- [B -/
def k23 : Class := { plain "[B" (some 0) with kind := .array 22 .byte, interfaces := #[21, 2], accessFlags := 1041 }

/-- the primitive char -/
def k24 : Class := { plain "char" none with kind := .primitive 'C', accessFlags := 0x411 }
/-- [C -/
def k25 : Class := { plain "[C" (some 0) with kind := .array 24 .char, interfaces := #[21, 2], accessFlags := 1041 }

/-- the primitive int -/
def k26 : Class := { plain "int" none with kind := .primitive 'I', accessFlags := 0x411 }
/-- [I -/
def k27 : Class := { plain "[I" (some 0) with kind := .array 26 .int, interfaces := #[21, 2], accessFlags := 1041 }

def heap : Heap := #[{ cls := 7, slots := #[.long 0, .int 1, .null, .int 0, .null, .int 0, .int 0], vm := .statics 7 },
  { cls := 19, slots := #[.null, .null, .null], vm := .statics 19 }]
def classes : Array Class := #[k0, k1, k2, k3, k4, k5, k6, k7, k8, k9, k10, k11, k12, k13, k14, k15, k16, k17, k18, k19, k20, k21, k22, k23, k24, k25, k26, k27]
def interned : List (Array UInt16 × Addr) := []
def slotsUsed : Nat := 10
def theMethod : MethodId := ⟨1, 1⟩
def args0 : Array Value := #[.int 8, .int 65, .int 5]
def aboutOver (below : List Frame) : State where
  vm := { classes := classes, interned := interned.toArray }
  heap := heap
  slotsUsed := slotsUsed
  threads := #[{ frames := .invoking theMethod args0 :: below }]
def below0 : List Frame := [.native { method := ⟨0, 0⟩, args := #[] }]
def about1 : State := aboutOver below0
def p0 : Program := .bare "" "" ""
def e0 : Env := launch0.env 0 0 0
theorem w_frames : about1.frames = Frame.invoking theMethod args0 :: below0 := rfl
set_option maxRecDepth 65536 in
theorem w_args : argsFit about1.vm theMethod args0 = true := by decide +kernel
set_option maxRecDepth 65536 in
theorem w_heap : heapFits about1 = true := by decide +kernel
set_option maxRecDepth 65536 in
theorem w_runnable : about1.curStatus? = some .runnable := by decide +kernel
set_option maxRecDepth 65536 in
theorem w_alone : about1.alone = true := by decide +kernel
set_option maxRecDepth 65536 in
theorem w_named : about1.methodNamed? x = some theMethod := by decide +kernel
set_option maxRecDepth 65536 in
theorem w_hears : about1.hears theMethod below0 = true := by decide +kernel
set_option maxRecDepth 65536 in
theorem w_ripe : about1.ripe theMethod args0 below0 = true := by decide +kernel
theorem w_running : about1.status = .running := rfl
set_option maxRecDepth 65536 in
theorem w_room : about1.hasRoom e0.platform room_1 = true :=
  launch0.hasRoom_least _ room_1 (by decide +kernel) (by decide +kernel) (by decide +kernel) (by decide +kernel) (by decide +kernel) (by decide +kernel)
theorem allAtoms_all (ts : List Jvm.Cond) (a : Array Jvm.Value) (st : Jvm.State) : (allAtoms ts).before a st = ts.all (fun c => c.before a st) := by
  induction ts with
  | nil => rfl
  | cons c t ih =>
    show (Jvm.Cond.and c (allAtoms t)).before a st = _
    rw [Jvm.Cond.before_and, ih, List.all_cons]
def words1 : List Jvm.Cond := Jvm.Cond.code x code maxLocals ret :: tables_1
/-- a 'code' word, met by the world's own term for the bytes: nothing is compared byte by byte -/
theorem code_word {y : MethodName} {bytes : ByteArray} {mx : Nat} {rt : Option FieldType} {a : Array Value} {s : State} {m : MethodId} {meth : Method} {c : Code} (h1 : s.methodNamed? y = some m) (h2 : s.vm.method? m = some meth) (h3 : meth.code = some c) (h4 : c.code = bytes)
    (h5 : (c.maxLocals == mx && c.exceptionTable.isEmpty && decide (c.maxStack ≤ mostOperands) && decide (meth.sig.returnType = rt) && !meth.locks && decide (parseMethodDescriptor y.desc = some meth.sig)) = true) : (Jvm.Cond.code y bytes mx rt).before a s = true := by
  simp only [Bool.and_eq_true, beq_iff_eq, Bool.not_eq_true', decide_eq_true_eq] at h5
  obtain ⟨⟨⟨⟨⟨g1, g2⟩, g3⟩, g4⟩, g5⟩, g6⟩ := h5
  simp [Cond.before, Cond.holds, Cond.value, h1, h2, h3, h4, g1, g2, g3, g4, g5, g6]
def isCode : Jvm.Cond → Bool
  | .code _ _ _ _ => true
  | _ => false
theorem all_split {L : List Jvm.Cond} {P : Jvm.Cond → Bool} (h1 : L.all (fun c => isCode c || P c) = true) (h2 : ∀ c ∈ L.filter isCode, P c = true) : L.all P = true := by
  refine List.all_eq_true.mpr fun c hc => ?_
  have h := List.all_eq_true.mp h1 c hc
  rcases Bool.eq_false_or_eq_true (isCode c) with hi | hi
  · exact h2 c (List.mem_filter.mpr ⟨hc, hi⟩)
  · simpa [hi] using h
set_option maxRecDepth 65536 in
theorem w_c0 : (Jvm.Cond.code x code maxLocals ret).before args0 about1 = true := code_word (m := ⟨1, 1⟩) (meth := k1m1) (c := k1c1) (by decide +kernel) rfl rfl rfl (by decide +kernel)
set_option maxRecDepth 65536 in
theorem w_c1 : (Jvm.Cond.code ({ cls := "com/example/mailhelm/mailhelm/model/SourceToStringPinLaw", name := "mk", desc := "(II)Ljava/lang/String;" } : Jvm.MethodName) method_4_code (2 : Nat) (Option.some (Jvm.ClassFile.FieldType.object "java/lang/String"))).before args0 about1 = true := code_word (m := ⟨1, 3⟩) (meth := k1m3) (c := k1c3) (by decide +kernel) rfl rfl rfl (by decide +kernel)
set_option maxRecDepth 65536 in
theorem w_c2 : (Jvm.Cond.code ({ cls := "com/example/mailhelm/mailhelm/model/SourceToStringPinLaw", name := "ch", desc := "(II)C" } : Jvm.MethodName) method_3_code (2 : Nat) (Option.some Jvm.ClassFile.FieldType.char)).before args0 about1 = true := code_word (m := ⟨1, 2⟩) (meth := k1m2) (c := k1c2) (by decide +kernel) rfl rfl rfl (by decide +kernel)
set_option maxRecDepth 65536 in
theorem w_c3 : (Jvm.Cond.code ({ cls := "java/lang/String", name := "<init>", desc := "([C)V" } : Jvm.MethodName) jdk_42_method_3_code (2 : Nat) (Option.none : Option Jvm.ClassFile.FieldType)).before args0 about1 = true := code_word (m := ⟨7, 1⟩) (meth := k7m1) (c := k7c1) (by decide +kernel) rfl rfl rfl (by decide +kernel)
set_option maxRecDepth 65536 in
theorem w_c4 : (Jvm.Cond.code ({ cls := "java/lang/String", name := "<init>", desc := "([CIILjava/lang/Void;)V" } : Jvm.MethodName) jdk_42_method_149_code (6 : Nat) (Option.none : Option Jvm.ClassFile.FieldType)).before args0 about1 = true := code_word (m := ⟨7, 6⟩) (meth := k7m6) (c := k7c6) (by decide +kernel) rfl rfl rfl (by decide +kernel)
set_option maxRecDepth 65536 in
theorem w_c5 : (Jvm.Cond.code ({ cls := "java/lang/Object", name := "<init>", desc := "()V" } : Jvm.MethodName) object_method_1_code (1 : Nat) (Option.none : Option Jvm.ClassFile.FieldType)).before args0 about1 = true := code_word (m := ⟨0, 0⟩) (meth := k0m0) (c := k0c0) (by decide +kernel) rfl rfl rfl (by decide +kernel)
set_option maxRecDepth 65536 in
theorem w_c6 : (Jvm.Cond.code ({ cls := "java/lang/StringUTF16", name := "compress", desc := "([CII)[B" } : Jvm.MethodName) jdk_52_method_16_code (6 : Nat) (Option.some (Jvm.ClassFile.FieldType.array Jvm.ClassFile.FieldType.byte))).before args0 about1 = true := code_word (m := ⟨8, 2⟩) (meth := k8m2) (c := k8c2) (by decide +kernel) rfl rfl rfl (by decide +kernel)
set_option maxRecDepth 65536 in
theorem w_c7 : (Jvm.Cond.code ({ cls := "java/lang/StringUTF16", name := "compress", desc := "([CI[BII)I" } : Jvm.MethodName) jdk_52_method_21_code (7 : Nat) (Option.some Jvm.ClassFile.FieldType.int)).before args0 about1 = true := code_word (m := ⟨8, 3⟩) (meth := k8m3) (c := k8c3) (by decide +kernel) rfl rfl rfl (by decide +kernel)
set_option maxRecDepth 65536 in
theorem w_c8 : (Jvm.Cond.code ({ cls := "java/lang/StringUTF16", name := "coderFromArrayLen", desc := "([BI)B" } : Jvm.MethodName) jdk_52_method_15_code (2 : Nat) (Option.some Jvm.ClassFile.FieldType.byte)).before args0 about1 = true := code_word (m := ⟨8, 1⟩) (meth := k8m1) (c := k8c1) (by decide +kernel) rfl rfl rfl (by decide +kernel)
set_option maxRecDepth 65536 in
theorem w_c9 : (Jvm.Cond.code ({ cls := "com/example/mailhelm/mailhelm/model/Source", name := "<init>", desc := "(Ljava/lang/String;Ljava/lang/String;)V" } : Jvm.MethodName) prog_26_method_1_code (3 : Nat) (Option.none : Option Jvm.ClassFile.FieldType)).before args0 about1 = true := code_word (m := ⟨10, 0⟩) (meth := k10m0) (c := k10c0) (by decide +kernel) rfl rfl rfl (by decide +kernel)
set_option maxRecDepth 65536 in
theorem w_c10 : (Jvm.Cond.code ({ cls := "java/lang/Record", name := "<init>", desc := "()V" } : Jvm.MethodName) jdk_30_method_1_code (1 : Nat) (Option.none : Option Jvm.ClassFile.FieldType)).before args0 about1 = true := code_word (m := ⟨9, 0⟩) (meth := k9m0) (c := k9c0) (by decide +kernel) rfl rfl rfl (by decide +kernel)
set_option maxRecDepth 65536 in
theorem w_c11 : (Jvm.Cond.code ({ cls := "java/util/Objects", name := "requireNonNull", desc := "(Ljava/lang/Object;Ljava/lang/String;)Ljava/lang/Object;" } : Jvm.MethodName) jdk_31_method_11_code (2 : Nat) (Option.some (Jvm.ClassFile.FieldType.object "java/lang/Object"))).before args0 about1 = true := code_word (m := ⟨11, 1⟩) (meth := k11m1) (c := k11c1) (by decide +kernel) rfl rfl rfl (by decide +kernel)
set_option maxRecDepth 65536 in
theorem w_c12 : (Jvm.Cond.code ({ cls := "com/example/mailhelm/mailhelm/model/Source", name := "toString", desc := "()Ljava/lang/String;" } : Jvm.MethodName) prog_26_method_2_code (1 : Nat) (Option.some (Jvm.ClassFile.FieldType.object "java/lang/String"))).before args0 about1 = true := code_word (m := ⟨10, 1⟩) (meth := k10m1) (c := k10c1) (by decide +kernel) rfl rfl rfl (by decide +kernel)
set_option maxRecDepth 65536 in
theorem w_c13 : (Jvm.Cond.code ({ cls := "java/lang/StringBuilder", name := "<init>", desc := "()V" } : Jvm.MethodName) jdk_67_method_1_code (1 : Nat) (Option.none : Option Jvm.ClassFile.FieldType)).before args0 about1 = true := code_word (m := ⟨14, 0⟩) (meth := k14m0) (c := k14c0) (by decide +kernel) rfl rfl rfl (by decide +kernel)
set_option maxRecDepth 65536 in
theorem w_c14 : (Jvm.Cond.code ({ cls := "java/lang/AbstractStringBuilder", name := "<init>", desc := "(I)V" } : Jvm.MethodName) jdk_68_method_2_code (2 : Nat) (Option.none : Option Jvm.ClassFile.FieldType)).before args0 about1 = true := code_word (m := ⟨13, 1⟩) (meth := k13m1) (c := k13c1) (by decide +kernel) rfl rfl rfl (by decide +kernel)
set_option maxRecDepth 65536 in
theorem w_c15 : (Jvm.Cond.code ({ cls := "java/lang/StringBuilder", name := "append", desc := "(Ljava/lang/String;)Ljava/lang/StringBuilder;" } : Jvm.MethodName) jdk_67_method_7_code (2 : Nat) (Option.some (Jvm.ClassFile.FieldType.object "java/lang/StringBuilder"))).before args0 about1 = true := code_word (m := ⟨14, 1⟩) (meth := k14m1) (c := k14c1) (by decide +kernel) rfl rfl rfl (by decide +kernel)
set_option maxRecDepth 65536 in
theorem w_c16 : (Jvm.Cond.code ({ cls := "java/lang/AbstractStringBuilder", name := "append", desc := "(Ljava/lang/String;)Ljava/lang/AbstractStringBuilder;" } : Jvm.MethodName) jdk_68_method_22_code (3 : Nat) (Option.some (Jvm.ClassFile.FieldType.object "java/lang/AbstractStringBuilder"))).before args0 about1 = true := code_word (m := ⟨13, 4⟩) (meth := k13m4) (c := k13c4) (by decide +kernel) rfl rfl rfl (by decide +kernel)
set_option maxRecDepth 65536 in
theorem w_c17 : (Jvm.Cond.code ({ cls := "java/lang/String", name := "length", desc := "()I" } : Jvm.MethodName) jdk_42_method_54_code (1 : Nat) (Option.some Jvm.ClassFile.FieldType.int)).before args0 about1 = true := code_word (m := ⟨7, 3⟩) (meth := k7m3) (c := k7c3) (by decide +kernel) rfl rfl rfl (by decide +kernel)
set_option maxRecDepth 65536 in
theorem w_c18 : (Jvm.Cond.code ({ cls := "java/lang/String", name := "coder", desc := "()B" } : Jvm.MethodName) jdk_42_method_152_code (1 : Nat) (Option.some Jvm.ClassFile.FieldType.byte)).before args0 about1 = true := code_word (m := ⟨7, 8⟩) (meth := k7m8) (c := k7c8) (by decide +kernel) rfl rfl rfl (by decide +kernel)
set_option maxRecDepth 65536 in
theorem w_c19 : (Jvm.Cond.code ({ cls := "java/lang/AbstractStringBuilder", name := "ensureCapacityInternal", desc := "(I)V" } : Jvm.MethodName) jdk_68_method_9_code (3 : Nat) (Option.none : Option Jvm.ClassFile.FieldType)).before args0 about1 = true := code_word (m := ⟨13, 3⟩) (meth := k13m3) (c := k13c3) (by decide +kernel) rfl rfl rfl (by decide +kernel)
set_option maxRecDepth 65536 in
theorem w_c20 : (Jvm.Cond.code ({ cls := "java/lang/AbstractStringBuilder", name := "putStringAt", desc := "(ILjava/lang/String;)V" } : Jvm.MethodName) jdk_68_method_73_code (3 : Nat) (Option.none : Option Jvm.ClassFile.FieldType)).before args0 about1 = true := code_word (m := ⟨13, 8⟩) (meth := k13m8) (c := k13c8) (by decide +kernel) rfl rfl rfl (by decide +kernel)
set_option maxRecDepth 65536 in
theorem w_c21 : (Jvm.Cond.code ({ cls := "java/lang/AbstractStringBuilder", name := "inflateIfNeededFor", desc := "(Ljava/lang/String;)V" } : Jvm.MethodName) jdk_68_method_71_code (2 : Nat) (Option.none : Option Jvm.ClassFile.FieldType)).before args0 about1 = true := code_word (m := ⟨13, 7⟩) (meth := k13m7) (c := k13c7) (by decide +kernel) rfl rfl rfl (by decide +kernel)
set_option maxRecDepth 65536 in
theorem w_c22 : (Jvm.Cond.code ({ cls := "java/lang/String", name := "getBytes", desc := "([BIB)V" } : Jvm.MethodName) jdk_42_method_147_code (4 : Nat) (Option.none : Option Jvm.ClassFile.FieldType)).before args0 about1 = true := code_word (m := ⟨7, 5⟩) (meth := k7m5) (c := k7c5) (by decide +kernel) rfl rfl rfl (by decide +kernel)
set_option maxRecDepth 65536 in
theorem w_c23 : (Jvm.Cond.code ({ cls := "java/lang/StringBuilder", name := "toString", desc := "()Ljava/lang/String;" } : Jvm.MethodName) jdk_67_method_42_code (1 : Nat) (Option.some (Jvm.ClassFile.FieldType.object "java/lang/String"))).before args0 about1 = true := code_word (m := ⟨14, 2⟩) (meth := k14m2) (c := k14c2) (by decide +kernel) rfl rfl rfl (by decide +kernel)
set_option maxRecDepth 65536 in
theorem w_c24 : (Jvm.Cond.code ({ cls := "java/lang/String", name := "<init>", desc := "(Ljava/lang/StringBuilder;)V" } : Jvm.MethodName) jdk_42_method_53_code (2 : Nat) (Option.none : Option Jvm.ClassFile.FieldType)).before args0 about1 = true := code_word (m := ⟨7, 2⟩) (meth := k7m2) (c := k7c2) (by decide +kernel) rfl rfl rfl (by decide +kernel)
set_option maxRecDepth 65536 in
theorem w_c25 : (Jvm.Cond.code ({ cls := "java/lang/String", name := "<init>", desc := "(Ljava/lang/AbstractStringBuilder;Ljava/lang/Void;)V" } : Jvm.MethodName) jdk_42_method_150_code (5 : Nat) (Option.none : Option Jvm.ClassFile.FieldType)).before args0 about1 = true := code_word (m := ⟨7, 7⟩) (meth := k7m7) (c := k7c7) (by decide +kernel) rfl rfl rfl (by decide +kernel)
set_option maxRecDepth 65536 in
theorem w_c26 : (Jvm.Cond.code ({ cls := "java/lang/AbstractStringBuilder", name := "getValue", desc := "()[B" } : Jvm.MethodName) jdk_68_method_64_code (1 : Nat) (Option.some (Jvm.ClassFile.FieldType.array Jvm.ClassFile.FieldType.byte))).before args0 about1 = true := code_word (m := ⟨13, 5⟩) (meth := k13m5) (c := k13c5) (by decide +kernel) rfl rfl rfl (by decide +kernel)
set_option maxRecDepth 65536 in
theorem w_c27 : (Jvm.Cond.code ({ cls := "java/lang/StringBuilder", name := "length", desc := "()I" } : Jvm.MethodName) jdk_67_method_93_code (1 : Nat) (Option.some Jvm.ClassFile.FieldType.int)).before args0 about1 = true := code_word (m := ⟨14, 3⟩) (meth := k14m3) (c := k14c3) (by decide +kernel) rfl rfl rfl (by decide +kernel)
set_option maxRecDepth 65536 in
theorem w_c28 : (Jvm.Cond.code ({ cls := "java/lang/AbstractStringBuilder", name := "length", desc := "()I" } : Jvm.MethodName) jdk_68_method_6_code (1 : Nat) (Option.some Jvm.ClassFile.FieldType.int)).before args0 about1 = true := code_word (m := ⟨13, 2⟩) (meth := k13m2) (c := k13c2) (by decide +kernel) rfl rfl rfl (by decide +kernel)
set_option maxRecDepth 65536 in
theorem w_c29 : (Jvm.Cond.code ({ cls := "java/lang/AbstractStringBuilder", name := "isLatin1", desc := "()Z" } : Jvm.MethodName) jdk_68_method_68_code (1 : Nat) (Option.some Jvm.ClassFile.FieldType.boolean)).before args0 about1 = true := code_word (m := ⟨13, 6⟩) (meth := k13m6) (c := k13c6) (by decide +kernel) rfl rfl rfl (by decide +kernel)
set_option maxRecDepth 65536 in
theorem w_c30 : (Jvm.Cond.code ({ cls := "java/util/Arrays", name := "copyOfRange", desc := "([BII)[B" } : Jvm.MethodName) jdk_65_method_132_code (3 : Nat) (Option.some (Jvm.ClassFile.FieldType.array Jvm.ClassFile.FieldType.byte))).before args0 about1 = true := code_word (m := ⟨16, 2⟩) (meth := k16m2) (c := k16c2) (by decide +kernel) rfl rfl rfl (by decide +kernel)
set_option maxRecDepth 65536 in
theorem w_c31 : (Jvm.Cond.code ({ cls := "java/util/Arrays", name := "copyOfRangeByte", desc := "([BII)[B" } : Jvm.MethodName) jdk_65_method_133_code (5 : Nat) (Option.some (Jvm.ClassFile.FieldType.array Jvm.ClassFile.FieldType.byte))).before args0 about1 = true := code_word (m := ⟨16, 3⟩) (meth := k16m3) (c := k16c3) (by decide +kernel) rfl rfl rfl (by decide +kernel)
set_option maxRecDepth 65536 in
theorem w_c32 : (Jvm.Cond.code ({ cls := "java/util/Arrays", name := "checkLength", desc := "(II)V" } : Jvm.MethodName) jdk_65_method_131_code (2 : Nat) (Option.none : Option Jvm.ClassFile.FieldType)).before args0 about1 = true := code_word (m := ⟨16, 1⟩) (meth := k16m1) (c := k16c1) (by decide +kernel) rfl rfl rfl (by decide +kernel)
set_option maxRecDepth 65536 in
theorem w_c33 : (Jvm.Cond.code ({ cls := "java/lang/Math", name := "min", desc := "(II)I" } : Jvm.MethodName) jdk_29_method_69_code (2 : Nat) (Option.some Jvm.ClassFile.FieldType.int)).before args0 about1 = true := code_word (m := ⟨17, 1⟩) (meth := k17m1) (c := k17c1) (by decide +kernel) rfl rfl rfl (by decide +kernel)
set_option maxRecDepth 65536 in
theorem w_c34 : (Jvm.Cond.code ({ cls := "java/lang/String", name := "charAt", desc := "(I)C" } : Jvm.MethodName) jdk_42_method_56_code (2 : Nat) (Option.some Jvm.ClassFile.FieldType.char)).before args0 about1 = true := code_word (m := ⟨7, 4⟩) (meth := k7m4) (c := k7c4) (by decide +kernel) rfl rfl rfl (by decide +kernel)
set_option maxRecDepth 65536 in
theorem w_c35 : (Jvm.Cond.code ({ cls := "java/lang/String", name := "isLatin1", desc := "()Z" } : Jvm.MethodName) jdk_42_method_154_code (1 : Nat) (Option.some Jvm.ClassFile.FieldType.boolean)).before args0 about1 = true := code_word (m := ⟨7, 9⟩) (meth := k7m9) (c := k7c9) (by decide +kernel) rfl rfl rfl (by decide +kernel)
set_option maxRecDepth 65536 in
theorem w_c36 : (Jvm.Cond.code ({ cls := "java/lang/StringLatin1", name := "charAt", desc := "([BI)C" } : Jvm.MethodName) jdk_43_method_2_code (2 : Nat) (Option.some Jvm.ClassFile.FieldType.char)).before args0 about1 = true := code_word (m := ⟨18, 1⟩) (meth := k18m1) (c := k18c1) (by decide +kernel) rfl rfl rfl (by decide +kernel)
set_option maxRecDepth 65536 in
theorem w_c37 : (Jvm.Cond.code ({ cls := "java/lang/String", name := "checkIndex", desc := "(II)V" } : Jvm.MethodName) jdk_42_method_155_code (2 : Nat) (Option.none : Option Jvm.ClassFile.FieldType)).before args0 about1 = true := code_word (m := ⟨7, 10⟩) (meth := k7m10) (c := k7c10) (by decide +kernel) rfl rfl rfl (by decide +kernel)
set_option maxRecDepth 65536 in
theorem w_c38 : (Jvm.Cond.code ({ cls := "jdk/internal/util/Preconditions", name := "checkIndex", desc := "(IILjava/util/function/BiFunction;)I" } : Jvm.MethodName) jdk_41_method_11_code (3 : Nat) (Option.some Jvm.ClassFile.FieldType.int)).before args0 about1 = true := code_word (m := ⟨19, 1⟩) (meth := k19m1) (c := k19c1) (by decide +kernel) rfl rfl rfl (by decide +kernel)
def codes1 : List Jvm.Cond := [Jvm.Cond.code x code maxLocals ret, Jvm.Cond.code ({ cls := "com/example/mailhelm/mailhelm/model/SourceToStringPinLaw", name := "mk", desc := "(II)Ljava/lang/String;" } : Jvm.MethodName) method_4_code (2 : Nat) (Option.some (Jvm.ClassFile.FieldType.object "java/lang/String")), Jvm.Cond.code ({ cls := "com/example/mailhelm/mailhelm/model/SourceToStringPinLaw", name := "ch", desc := "(II)C" } : Jvm.MethodName) method_3_code (2 : Nat) (Option.some Jvm.ClassFile.FieldType.char), Jvm.Cond.code ({ cls := "java/lang/String", name := "<init>", desc := "([C)V" } : Jvm.MethodName) jdk_42_method_3_code (2 : Nat) (Option.none : Option Jvm.ClassFile.FieldType), Jvm.Cond.code ({ cls := "java/lang/String", name := "<init>", desc := "([CIILjava/lang/Void;)V" } : Jvm.MethodName) jdk_42_method_149_code (6 : Nat) (Option.none : Option Jvm.ClassFile.FieldType), Jvm.Cond.code ({ cls := "java/lang/Object", name := "<init>", desc := "()V" } : Jvm.MethodName) object_method_1_code (1 : Nat) (Option.none : Option Jvm.ClassFile.FieldType), Jvm.Cond.code ({ cls := "java/lang/StringUTF16", name := "compress", desc := "([CII)[B" } : Jvm.MethodName) jdk_52_method_16_code (6 : Nat) (Option.some (Jvm.ClassFile.FieldType.array Jvm.ClassFile.FieldType.byte)), Jvm.Cond.code ({ cls := "java/lang/StringUTF16", name := "compress", desc := "([CI[BII)I" } : Jvm.MethodName) jdk_52_method_21_code (7 : Nat) (Option.some Jvm.ClassFile.FieldType.int), Jvm.Cond.code ({ cls := "java/lang/StringUTF16", name := "coderFromArrayLen", desc := "([BI)B" } : Jvm.MethodName) jdk_52_method_15_code (2 : Nat) (Option.some Jvm.ClassFile.FieldType.byte), Jvm.Cond.code ({ cls := "com/example/mailhelm/mailhelm/model/Source", name := "<init>", desc := "(Ljava/lang/String;Ljava/lang/String;)V" } : Jvm.MethodName) prog_26_method_1_code (3 : Nat) (Option.none : Option Jvm.ClassFile.FieldType), Jvm.Cond.code ({ cls := "java/lang/Record", name := "<init>", desc := "()V" } : Jvm.MethodName) jdk_30_method_1_code (1 : Nat) (Option.none : Option Jvm.ClassFile.FieldType), Jvm.Cond.code ({ cls := "java/util/Objects", name := "requireNonNull", desc := "(Ljava/lang/Object;Ljava/lang/String;)Ljava/lang/Object;" } : Jvm.MethodName) jdk_31_method_11_code (2 : Nat) (Option.some (Jvm.ClassFile.FieldType.object "java/lang/Object")), Jvm.Cond.code ({ cls := "com/example/mailhelm/mailhelm/model/Source", name := "toString", desc := "()Ljava/lang/String;" } : Jvm.MethodName) prog_26_method_2_code (1 : Nat) (Option.some (Jvm.ClassFile.FieldType.object "java/lang/String")), Jvm.Cond.code ({ cls := "java/lang/StringBuilder", name := "<init>", desc := "()V" } : Jvm.MethodName) jdk_67_method_1_code (1 : Nat) (Option.none : Option Jvm.ClassFile.FieldType), Jvm.Cond.code ({ cls := "java/lang/AbstractStringBuilder", name := "<init>", desc := "(I)V" } : Jvm.MethodName) jdk_68_method_2_code (2 : Nat) (Option.none : Option Jvm.ClassFile.FieldType), Jvm.Cond.code ({ cls := "java/lang/StringBuilder", name := "append", desc := "(Ljava/lang/String;)Ljava/lang/StringBuilder;" } : Jvm.MethodName) jdk_67_method_7_code (2 : Nat) (Option.some (Jvm.ClassFile.FieldType.object "java/lang/StringBuilder")), Jvm.Cond.code ({ cls := "java/lang/AbstractStringBuilder", name := "append", desc := "(Ljava/lang/String;)Ljava/lang/AbstractStringBuilder;" } : Jvm.MethodName) jdk_68_method_22_code (3 : Nat) (Option.some (Jvm.ClassFile.FieldType.object "java/lang/AbstractStringBuilder")), Jvm.Cond.code ({ cls := "java/lang/String", name := "length", desc := "()I" } : Jvm.MethodName) jdk_42_method_54_code (1 : Nat) (Option.some Jvm.ClassFile.FieldType.int), Jvm.Cond.code ({ cls := "java/lang/String", name := "coder", desc := "()B" } : Jvm.MethodName) jdk_42_method_152_code (1 : Nat) (Option.some Jvm.ClassFile.FieldType.byte), Jvm.Cond.code ({ cls := "java/lang/AbstractStringBuilder", name := "ensureCapacityInternal", desc := "(I)V" } : Jvm.MethodName) jdk_68_method_9_code (3 : Nat) (Option.none : Option Jvm.ClassFile.FieldType), Jvm.Cond.code ({ cls := "java/lang/AbstractStringBuilder", name := "putStringAt", desc := "(ILjava/lang/String;)V" } : Jvm.MethodName) jdk_68_method_73_code (3 : Nat) (Option.none : Option Jvm.ClassFile.FieldType), Jvm.Cond.code ({ cls := "java/lang/AbstractStringBuilder", name := "inflateIfNeededFor", desc := "(Ljava/lang/String;)V" } : Jvm.MethodName) jdk_68_method_71_code (2 : Nat) (Option.none : Option Jvm.ClassFile.FieldType), Jvm.Cond.code ({ cls := "java/lang/String", name := "getBytes", desc := "([BIB)V" } : Jvm.MethodName) jdk_42_method_147_code (4 : Nat) (Option.none : Option Jvm.ClassFile.FieldType), Jvm.Cond.code ({ cls := "java/lang/StringBuilder", name := "toString", desc := "()Ljava/lang/String;" } : Jvm.MethodName) jdk_67_method_42_code (1 : Nat) (Option.some (Jvm.ClassFile.FieldType.object "java/lang/String")), Jvm.Cond.code ({ cls := "java/lang/String", name := "<init>", desc := "(Ljava/lang/StringBuilder;)V" } : Jvm.MethodName) jdk_42_method_53_code (2 : Nat) (Option.none : Option Jvm.ClassFile.FieldType), Jvm.Cond.code ({ cls := "java/lang/String", name := "<init>", desc := "(Ljava/lang/AbstractStringBuilder;Ljava/lang/Void;)V" } : Jvm.MethodName) jdk_42_method_150_code (5 : Nat) (Option.none : Option Jvm.ClassFile.FieldType), Jvm.Cond.code ({ cls := "java/lang/AbstractStringBuilder", name := "getValue", desc := "()[B" } : Jvm.MethodName) jdk_68_method_64_code (1 : Nat) (Option.some (Jvm.ClassFile.FieldType.array Jvm.ClassFile.FieldType.byte)), Jvm.Cond.code ({ cls := "java/lang/StringBuilder", name := "length", desc := "()I" } : Jvm.MethodName) jdk_67_method_93_code (1 : Nat) (Option.some Jvm.ClassFile.FieldType.int), Jvm.Cond.code ({ cls := "java/lang/AbstractStringBuilder", name := "length", desc := "()I" } : Jvm.MethodName) jdk_68_method_6_code (1 : Nat) (Option.some Jvm.ClassFile.FieldType.int), Jvm.Cond.code ({ cls := "java/lang/AbstractStringBuilder", name := "isLatin1", desc := "()Z" } : Jvm.MethodName) jdk_68_method_68_code (1 : Nat) (Option.some Jvm.ClassFile.FieldType.boolean), Jvm.Cond.code ({ cls := "java/util/Arrays", name := "copyOfRange", desc := "([BII)[B" } : Jvm.MethodName) jdk_65_method_132_code (3 : Nat) (Option.some (Jvm.ClassFile.FieldType.array Jvm.ClassFile.FieldType.byte)), Jvm.Cond.code ({ cls := "java/util/Arrays", name := "copyOfRangeByte", desc := "([BII)[B" } : Jvm.MethodName) jdk_65_method_133_code (5 : Nat) (Option.some (Jvm.ClassFile.FieldType.array Jvm.ClassFile.FieldType.byte)), Jvm.Cond.code ({ cls := "java/util/Arrays", name := "checkLength", desc := "(II)V" } : Jvm.MethodName) jdk_65_method_131_code (2 : Nat) (Option.none : Option Jvm.ClassFile.FieldType), Jvm.Cond.code ({ cls := "java/lang/Math", name := "min", desc := "(II)I" } : Jvm.MethodName) jdk_29_method_69_code (2 : Nat) (Option.some Jvm.ClassFile.FieldType.int), Jvm.Cond.code ({ cls := "java/lang/String", name := "charAt", desc := "(I)C" } : Jvm.MethodName) jdk_42_method_56_code (2 : Nat) (Option.some Jvm.ClassFile.FieldType.char), Jvm.Cond.code ({ cls := "java/lang/String", name := "isLatin1", desc := "()Z" } : Jvm.MethodName) jdk_42_method_154_code (1 : Nat) (Option.some Jvm.ClassFile.FieldType.boolean), Jvm.Cond.code ({ cls := "java/lang/StringLatin1", name := "charAt", desc := "([BI)C" } : Jvm.MethodName) jdk_43_method_2_code (2 : Nat) (Option.some Jvm.ClassFile.FieldType.char), Jvm.Cond.code ({ cls := "java/lang/String", name := "checkIndex", desc := "(II)V" } : Jvm.MethodName) jdk_42_method_155_code (2 : Nat) (Option.none : Option Jvm.ClassFile.FieldType), Jvm.Cond.code ({ cls := "jdk/internal/util/Preconditions", name := "checkIndex", desc := "(IILjava/util/function/BiFunction;)I" } : Jvm.MethodName) jdk_41_method_11_code (3 : Nat) (Option.some Jvm.ClassFile.FieldType.int)]
set_option maxRecDepth 65536 in
theorem codes_eq : words1.filter isCode = codes1 := rfl
theorem w_codes : ∀ c ∈ words1.filter isCode, c.before args0 about1 = true := by
  rw [codes_eq]
  intro c hc
  simp only [codes1, List.mem_cons, List.not_mem_nil, or_false] at hc
  rcases hc with rfl | rfl | rfl | rfl | rfl | rfl | rfl | rfl | rfl | rfl | rfl | rfl | rfl | rfl | rfl | rfl | rfl | rfl | rfl | rfl | rfl | rfl | rfl | rfl | rfl | rfl | rfl | rfl | rfl | rfl | rfl | rfl | rfl | rfl | rfl | rfl | rfl | rfl | rfl
  · exact w_c0
  · exact w_c1
  · exact w_c2
  · exact w_c3
  · exact w_c4
  · exact w_c5
  · exact w_c6
  · exact w_c7
  · exact w_c8
  · exact w_c9
  · exact w_c10
  · exact w_c11
  · exact w_c12
  · exact w_c13
  · exact w_c14
  · exact w_c15
  · exact w_c16
  · exact w_c17
  · exact w_c18
  · exact w_c19
  · exact w_c20
  · exact w_c21
  · exact w_c22
  · exact w_c23
  · exact w_c24
  · exact w_c25
  · exact w_c26
  · exact w_c27
  · exact w_c28
  · exact w_c29
  · exact w_c30
  · exact w_c31
  · exact w_c32
  · exact w_c33
  · exact w_c34
  · exact w_c35
  · exact w_c36
  · exact w_c37
  · exact w_c38
set_option maxRecDepth 65536 in
theorem w_t1 : (words1.take 24).all (fun c => isCode c || c.before args0 about1) = true := by decide +kernel
set_option maxRecDepth 65536 in
theorem w_t2 : ((words1.drop 24).take 24).all (fun c => isCode c || c.before args0 about1) = true := by decide +kernel
set_option maxRecDepth 65536 in
theorem w_t3 : (((words1.drop 24).drop 24).take 24).all (fun c => isCode c || c.before args0 about1) = true := by decide +kernel
set_option maxRecDepth 65536 in
theorem w_t4 : ((((words1.drop 24).drop 24).drop 24).take 24).all (fun c => isCode c || c.before args0 about1) = true := by decide +kernel
set_option maxRecDepth 65536 in
theorem w_t5 : (((((words1.drop 24).drop 24).drop 24).drop 24).take 24).all (fun c => isCode c || c.before args0 about1) = true := by decide +kernel
set_option maxRecDepth 65536 in
theorem w_t6 : ((((((words1.drop 24).drop 24).drop 24).drop 24).drop 24).take 24).all (fun c => isCode c || c.before args0 about1) = true := by decide +kernel
set_option maxRecDepth 65536 in
theorem w_t7 : (((((((words1.drop 24).drop 24).drop 24).drop 24).drop 24).drop 24).take 24).all (fun c => isCode c || c.before args0 about1) = true := by decide +kernel
set_option maxRecDepth 65536 in
theorem w_t8 : ((((((((words1.drop 24).drop 24).drop 24).drop 24).drop 24).drop 24).drop 24).take 24).all (fun c => isCode c || c.before args0 about1) = true := by decide +kernel
set_option maxRecDepth 65536 in
theorem w_t9 : ((((((((words1.drop 24).drop 24).drop 24).drop 24).drop 24).drop 24).drop 24).drop 24).all (fun c => isCode c || c.before args0 about1) = true := by decide +kernel
theorem w_tables : (allAtoms (Jvm.Cond.code x code maxLocals ret :: tables_1)).before args0 about1 = true := by
  rw [allAtoms_all]
  show words1.all (fun c => c.before args0 about1) = true
  refine all_split ?_ w_codes
  rw [← List.take_append_drop 24 words1, List.all_append, w_t1, ← List.take_append_drop 24 (words1.drop 24), List.all_append, w_t2, ← List.take_append_drop 24 ((words1.drop 24).drop 24), List.all_append, w_t3, ← List.take_append_drop 24 (((words1.drop 24).drop 24).drop 24), List.all_append, w_t4, ← List.take_append_drop 24 ((((words1.drop 24).drop 24).drop 24).drop 24), List.all_append, w_t5, ← List.take_append_drop 24 (((((words1.drop 24).drop 24).drop 24).drop 24).drop 24), List.all_append, w_t6, ← List.take_append_drop 24 ((((((words1.drop 24).drop 24).drop 24).drop 24).drop 24).drop 24), List.all_append, w_t7, ← List.take_append_drop 24 (((((((words1.drop 24).drop 24).drop 24).drop 24).drop 24).drop 24).drop 24), List.all_append, w_t8, w_t9]
  rfl
set_option maxRecDepth 65536 in
theorem w_rest : rest_1_c.before args0 about1 = true := by decide +kernel
set_option maxRecDepth 65536 in
theorem w_case : (Jvm.Cond.and given_1 narrow_1).before args0 about1 = true := by decide +kernel
set_option maxRecDepth 65536 in
theorem w_consts : constsHeld consts_1 about1 := Jvm.Lit.constsHeldB_iff.mp (by decide +kernel)
theorem w_applies : (headSpec (Jvm.Cond.code x code maxLocals ret :: tables_1) room_1).applies x e0.platform about1 = true :=
  (Spec.applies_iff w_frames).mpr ⟨w_running, w_runnable, w_alone, w_named, w_hears, w_ripe, w_room, w_tables⟩
theorem atStart : AtStart classFile x code maxLocals ret World_1 tables_1 room_1 Calls_1 rest_1 Pre_1 launch0 p0 e0 about1 theMethod args0 below0 :=
  ⟨lists_1, trivial, launch0.admits_env _ _ _, launch0.least_env, fairChoices_fair.cas, fairChoices_fair.clock, w_frames, w_args, w_heap, w_applies, ⟨w_consts, trivial⟩, w_rest, w_case⟩
end start1
theorem witness_1 : WitnessClaimed_1 := ⟨start1.p0, start1.e0, start1.about1, start1.theMethod, start1.args0, start1.below0, start1.atStart⟩
end Jvm.Pilot.@@N@@
